import Derived.Test.Qxb6601246aZzSpec
/-! FnCoveredSpec: its walk. -/
namespace Go.Proofs.Qxb6601246a
open Go.RowKit

theorem endOf_toList (s : ByteArray) : (endOf s).toList = s.toList ++ [0] := by
  unfold endOf
  simp [Lib.toList_data]

theorem endOf_size (s : ByteArray) : (endOf s).size = s.size + 1 := by
  unfold endOf
  simp
  rfl

theorem isRange_alloc (w : World) (S E : ByteArray) (ex : Bool) (v : Value) (t : TypeId) : IsRange (w.alloc (.cells #[.string S, .string E, .bool ex, v] t)) w.heap.size S E ex v := by
  unfold IsRange
  simp only [World.cell?_alloc_new]
  exact ⟨rfl, rfl, rfl, rfl⟩

theorem below_drewN {B : Nat} {a w : World} (h : Below B a w) (n : Nat) : Below B a (w.drewN n) := h.trans ⟨rfl, rfl, rfl, Nat.le_refl _, fun _ _ => rfl⟩

theorem below_mid {w3 w4 : World} (h4 : Below w3.heap.size w3 w4) (o : Obj) (q : Nat) : Below w3.heap.size w3 ((w4.alloc o).drewN q) :=
  below_drewN (h4.alloc h4.size o) q

theorem below_fin {w2 w3 w4 : World} (h3 : Below w2.heap.size w2 w3) (h4 : Below w3.heap.size w3 w4) (o : Obj) (q : Nat) : Below w2.heap.size w2 ((w4.alloc o).drewN q) :=
  h3.trans ((below_mid h4 o q).mono h3.size)

set_option maxHeartbeats 1000000 in
theorem spec_walk (S E : ByteArray) (ex : Bool) (a : Option Addr) (n cap : Nat) (kk : ByteArray) (K : Nat → ByteArray) (X Y : Nat → Int) (Z : Nat → Bool) (w : World)
    (hS : S.size ≤ maxLen) (hE : E.size ≤ maxLen) (hk : kk.size ≤ maxLen) (hn : n ≤ maxLen) (h : IsReads w a n K X Y Z) (hK : ∀ i, i < n → (K i).size ≤ maxLen) :
    Calls Try.prog 5 #[.string S, .string E, .bool ex, .slice a n cap, .string kk] w fun e w' => e = .returned (.bool true) ∧ Below w.heap.size w w' := by
  have HZ := hide (zz12_c S E ex a n cap kk K X Y Z w hS hE hk hn h hK)
  have H := hide h
  clear h hK
  go_enter Try.func5, Try.ntmps5
  go_wp2_with fail
  refine HZ.out.mono ?_
  rintro e w' ⟨⟨r, rfl, hr⟩, rfl⟩
  cases r with
  | false =>
    clear hr HZ
    go_wp2
    go_ret
    exact ⟨rfl, Below.refl _ _⟩
  | true =>
    obtain ⟨hb, hK⟩ := hr rfl
    have HK := hide hK
    clear hr HZ hK hS hE hk hn
    have HRB := hide (readBytes_c a n cap K X Y Z w' (by omega) H.out HK.out)
    go_wp2_with fail
    refine HRB.out.mono ?_
    rintro e w1 ⟨⟨R, rfl, hR0, hR1⟩, rfl⟩
    go_wp2_with fail
    · go_ret
      exact ⟨rfl, Below.refl _ _⟩
    refine HRB.out.mono ?_
    rintro e w2 ⟨⟨R', rfl, hR0', hR1'⟩, rfl⟩
    go_wp2_with fail
    · go_ret
      exact ⟨rfl, Below.refl _ _⟩
    clear HRB
    refine (clone_c a n cap K X Y Z _ (by omega) H.out).mono ?_
    rintro e w3 ⟨⟨a3, c3, rfl, h3⟩, hB3⟩
    have H3 := hide h3
    have HB3 := hide hB3
    clear h3 hB3
    go_wp2_with fail
    refine (toReads_c a3 n c3 K X Y Z _ (by omega) H3.out).mono ?_
    rintro e w4 ⟨⟨a4, c4, rfl, h4⟩, hB4⟩
    have H4 := hide h4
    have HB4 := hide hB4
    clear h4 hB4
    go_wp2_with fail
    refine (ZZcovered_c _ w4.heap.size S E ex a4 n c4 K X Y Z (isRange_alloc _ _ _ _ _ _) (isReads_below ((Below.refl _ _).alloc (Nat.le_refl _) _) H4.out) (by omega) HK.out).mono ?_
    rintro e w5 ⟨rfl, q, rfl⟩
    have HBf := hide (below_fin HB3.out HB4.out (Obj.cells #[Value.string S, Value.string E, Value.bool ex, Value.slice a4 n c4] 32) q)
    cases ex with
    | true =>
      have e1 : covE E true n K = E := rfl
      have e2 : covOk true n = true := rfl
      rw [e1, e2]
      clear e1 e2
      go_wp2_with fail
      go_ret
      exact ⟨rfl, HBf.out⟩
    | false =>
      by_cases h0 : n = 0
      · have e1 : covE E false n K = ⟨#[]⟩ := by simp [covE, h0]
        have e2 : covOk false n = false := by simp [covOk, h0]
        have e3 : ((n : Int) == 0) = true := by simp [h0]
        rw [e1, e2]
        clear e1 e2 h0
        go_wp2_with fail
        go_ret
        exact ⟨rfl, HBf.out⟩
      · obtain ⟨m, rfl⟩ : ∃ m, n = m + 1 := ⟨n - 1, by omega⟩
        have e1 : covE E false (m + 1) K = endOf (K m) := by simp [covE]
        have e2 : covOk false (m + 1) = true := by simp [covOk]
        rw [e1, e2]
        clear e1 e2 h0
        have h5 := isReads_below (w' := ((w4.alloc (Obj.cells #[Value.string S, Value.string E, Value.bool false, Value.slice a4 (m + 1) c4] 32)).drewN q)) (below_mid HB4.out _ q) H3.out
        have hKm := HK.out m (by omega)
        rcases h5 with h5 | ⟨b5, o5, rfl, hb5, h5⟩
        · omega
        have hc := (h5 m (by omega)).1
        clear h5
        have hne : (endOf (K m)).toList.isEmpty = false := by rw [endOf_toList]; simp
        have hfin : (withinL (endOf (K m)).toList kk.toList == !Op.bytesLess (K m).toList kk.toList) = true := by
          rw [endOf_toList]
          simp [withinL, bl_snoc]
        go_wp2_with fail
        refine (within_c (endOf (K m)) kk _ (by rw [endOf_size]; unfold maxLen; omega) (by unfold maxLen; omega)).mono ?_
        rintro e w6 ⟨rfl, q6, rfl⟩
        go_wp2_with fail
        refine (lessBytes_c (K m) kk _ (by unfold maxLen; omega) (by unfold maxLen; omega)).mono ?_
        rintro e w7 ⟨rfl, q7, rfl⟩
        go_wp2_with fail
        go_ret
        exact ⟨rfl, below_fin HB3.out HB4.out _ _⟩
end Go.Proofs.Qxb6601246a
