import Derived.Test.Qxb6601246aZzFin
import Derived.Test.Qxb6601246aSpecWalk
/-! FnCoveredFinishingNeverShrinks: its walk. -/
namespace Go.Proofs.Qxb6601246a
open Go.RowKit

theorem isRange_fst (w : World) (S E : ByteArray) (x y : Bool) (v : Value) (t : TypeId) :
    IsRange ((w.alloc (.cells #[.string S, .string E, .bool x, v] t)).alloc (.cells #[.string S, .string E, .bool y, v] t)) w.heap.size S E x v := by
  unfold IsRange
  simp [World.cell?_alloc_past, World.cell?_alloc_at]

theorem isRange_snd (w : World) (S E : ByteArray) (x y : Bool) (v : Value) (t : TypeId) :
    IsRange ((w.alloc (.cells #[.string S, .string E, .bool x, v] t)).alloc (.cells #[.string S, .string E, .bool y, v] t)) (w.heap.size + 1) S E y v := by
  unfold IsRange
  simp [World.cell?_alloc_at]

theorem isRange_drewN {w : World} {r : Nat} {S E : ByteArray} {ex : Bool} {v : Value} (h : IsRange w r S E ex v) (q : Nat) : IsRange (w.drewN q) r S E ex v := h

theorem isReads_drewN {w : World} {a : Option Addr} {n : Nat} {K : Nat → ByteArray} {X Y : Nat → Int} {Z : Nat → Bool} (h : IsReads w a n K X Y Z) (q : Nat) : IsReads (w.drewN q) a n K X Y Z := h

theorem isReads_two {w : World} {a : Option Addr} {n : Nat} {K : Nat → ByteArray} {X Y : Nat → Int} {Z : Nat → Bool} (h : IsReads w a n K X Y Z) (o p : Obj) : IsReads ((w.alloc o).alloc p) a n K X Y Z :=
  isReads_below (((Below.refl _ _).alloc (Nat.le_refl _) o).alloc (by simp) p) h

theorem covE_stop (E : ByteArray) (m : Nat) (K : Nat → ByteArray) : covE E false (m + 1) K = endOf (K m) := by simp [covE]
theorem covOk_stop (m : Nat) : covOk false (m + 1) = true := by simp [covOk]
theorem covE_done (E : ByteArray) (n : Nat) (K : Nat → ByteArray) : covE E true n K = E := rfl
theorem covOk_done (n : Nat) : covOk true n = true := rfl
theorem covE_zero (E : ByteArray) (K : Nat → ByteArray) : covE E false 0 K = ⟨#[]⟩ := rfl
theorem covOk_zero : covOk false 0 = false := rfl

theorem below_two {w w3 w4 : World} (h3 : Below w.heap.size w w3) (h4 : Below w3.heap.size w3 w4) (o p : Obj) (q : Nat) : Below w.heap.size w (((w4.alloc o).alloc p).drewN q) :=
  below_drewN (((h3.trans (h4.mono h3.size)).alloc (Nat.le_trans h3.size h4.size) o).alloc (by simp; have := h3.size; have := h4.size; omega) p) q

theorem below_from {w w3 : World} {q : Nat} (h : Below (w.drewN q).heap.size (w.drewN q) w3) : Below w.heap.size w w3 := (below_drewN (Below.refl _ w) q).trans h

set_option maxHeartbeats 1000000 in
theorem fin_walk (S E : ByteArray) (a : Option Addr) (n cap : Nat) (kk : ByteArray) (K : Nat → ByteArray) (X Y : Nat → Int) (Z : Nat → Bool) (w : World)
    (hS : S.size ≤ maxLen) (hE : E.size ≤ maxLen) (hk : kk.size ≤ maxLen) (hn : n ≤ maxLen) (h : IsReads w a n K X Y Z) (hK : ∀ i, i < n → (K i).size ≤ maxLen) :
    Calls Try.prog 7 #[.string S, .string E, .slice a n cap, .string kk] w fun e w' => e = .returned (.bool true) ∧ Below w.heap.size w w' := by
  have HZ := hide (fun w h => zz20_c S E a n cap kk K X Y Z w hS hE hk hn h hK)
  have H := hide h
  clear h hK
  go_enter Try.func7, Try.ntmps7
  go_wp2_with fail
  refine (HZ.out _ H.out).mono ?_
  rintro e w' ⟨⟨r, rfl, hr⟩, hw'⟩
  subst hw'
  cases r with
  | false =>
    clear hr HZ
    go_wp2
    go_ret
    exact ⟨rfl, Below.refl _ _⟩
  | true =>
    obtain ⟨hb, hK⟩ := hr rfl
    have HK := hide hK
    clear hr HZ hK hS hE hk hn
    have HRB := hide (fun w h => readBytes_c a n cap K X Y Z w (by omega) h HK.out)
    go_wp2_with fail
    refine (HRB.out _ H.out).mono ?_
    rintro e w1 ⟨⟨R, rfl, hR0, hR1⟩, hw1⟩
    subst hw1
    go_wp2_with fail
    · go_ret
      exact ⟨rfl, Below.refl _ _⟩
    refine (HRB.out _ H.out).mono ?_
    rintro e w2 ⟨⟨R', rfl, hR0', hR1'⟩, hw2⟩
    subst hw2
    clear HRB
    by_cases h0 : n = 0
    · subst h0
      go_wp2_with fail
      · go_ret
        exact ⟨rfl, Below.refl _ _⟩
      refine (clone_c a 0 cap K X Y Z _ (by omega) H.out).mono ?_
      rintro e w3 ⟨⟨a3, c3, rfl, h3⟩, hB3⟩
      have H3 := hide h3
      have HB3 := hide hB3
      clear h3 hB3
      go_wp2_with fail
      refine (toReads_c a3 0 c3 K X Y Z _ (by omega) H3.out).mono ?_
      rintro e w4 ⟨⟨a4, c4, rfl, h4⟩, hB4⟩
      have H4 := hide h4
      have HB4 := hide hB4
      clear h4 hB4
      have HR1 := hide (isRange_fst w4 S E false true (.slice a4 0 c4) 32)
      have HR2 := hide (isRange_snd w4 S E false true (.slice a4 0 c4) 32)
      have H5 := hide (isReads_two H4.out (Obj.cells #[Value.string S, Value.string E, Value.bool false, Value.slice a4 0 c4] 32) (Obj.cells #[Value.string S, Value.string E, Value.bool true, Value.slice a4 0 c4] 32))
      go_wp2_with fail
      refine (ZZcovered_c _ w4.heap.size S E false a4 0 c4 K X Y Z HR1.out H5.out (by omega) HK.out).mono ?_
      rintro e w5 ⟨rfl, q1, rfl⟩
      rw [covE_zero, covOk_zero]
      go_wp2_with fail
      refine (ZZcovered_c _ (w4.heap.size + 1) S E true a4 0 c4 K X Y Z (isRange_drewN HR2.out q1) (isReads_drewN H5.out q1) (by omega) HK.out).mono ?_
      rintro e w6 ⟨rfl, q2, rfl⟩
      rw [covE_done, covOk_done]
      go_wp2_with fail
      go_ret
      exact ⟨rfl, below_two HB3.out HB4.out _ _ _⟩
    obtain ⟨m, rfl⟩ : ∃ m, n = m + 1 := ⟨n - 1, by omega⟩
    clear h0
    have hKm := HK.out m (by omega)
    cases hem : E.toList.isEmpty with
    | true =>
      have hlat : ((later (endOf (K m)) E).toList == E.toList) = true := by
        rw [later_toList, endOf_toList, laterL_end _ _ (Or.inl (by simpa using hem))]; simp
      have HM := hide (fun h => within_mono (endOf (K m)).toList E.toList kk.toList (by rw [endOf_toList]; exact laterL_end _ _ (Or.inl (by simpa using hem))) h)
      go_wp2_with fail
      · go_ret
        exact ⟨rfl, Below.refl _ _⟩
      refine (clone_c a (m + 1) cap K X Y Z _ (by omega) H.out).mono ?_
      rintro e w3 ⟨⟨a3, c3, rfl, h3⟩, hB3⟩
      have H3 := hide h3
      have HB3 := hide hB3
      clear h3 hB3
      go_wp2_with fail
      refine (toReads_c a3 (m + 1) c3 K X Y Z _ (by omega) H3.out).mono ?_
      rintro e w4 ⟨⟨a4, c4, rfl, h4⟩, hB4⟩
      have H4 := hide h4
      have HB4 := hide hB4
      clear h4 hB4
      have HR1 := hide (isRange_fst w4 S E false true (.slice a4 (m + 1) c4) 32)
      have HR2 := hide (isRange_snd w4 S E false true (.slice a4 (m + 1) c4) 32)
      have H5 := hide (isReads_two H4.out (Obj.cells #[Value.string S, Value.string E, Value.bool false, Value.slice a4 (m + 1) c4] 32) (Obj.cells #[Value.string S, Value.string E, Value.bool true, Value.slice a4 (m + 1) c4] 32))
      go_wp2_with fail
      refine (ZZcovered_c _ w4.heap.size S E false a4 (m + 1) c4 K X Y Z HR1.out H5.out (by omega) HK.out).mono ?_
      rintro e w5 ⟨rfl, q1, rfl⟩
      rw [covE_stop, covOk_stop]
      go_wp2_with fail
      refine (ZZcovered_c _ (w4.heap.size + 1) S E true a4 (m + 1) c4 K X Y Z (isRange_drewN HR2.out q1) (isReads_drewN H5.out q1) (by omega) HK.out).mono ?_
      rintro e w6 ⟨rfl, q2, rfl⟩
      rw [covE_done, covOk_done]
      go_wp2_with fail
      refine (ZZlaterEnd_c _ _ _).mono ?_
      rintro e w7 ⟨rfl, rfl⟩
      have HW1 := hide (fun w => within_c (endOf (K m)) kk w (by rw [endOf_size]; unfold maxLen; omega) (by unfold maxLen; omega))
      have HW2 := hide (fun w => within_c E kk w (by unfold maxLen; omega) (by unfold maxLen; omega))
      cases hw : withinL (endOf (K m)).toList kk.toList with
      | false =>
        rw [hw] at HW1
        go_wp2_with fail
        refine (HW1.out _).mono ?_
        rintro e w8 ⟨rfl, q3, rfl⟩
        go_wp2_with fail
        go_ret
        exact ⟨rfl, below_two HB3.out HB4.out _ _ _⟩
      | true =>
        have hm := HM.out hw
        rw [hw] at HW1
        rw [hm] at HW2
        clear hw hm
        go_wp2_with fail
        refine (HW1.out _).mono ?_
        rintro e w8 ⟨rfl, q3, rfl⟩
        go_wp2_with fail
        refine (HW2.out _).mono ?_
        rintro e w9 ⟨rfl, q4, rfl⟩
        go_wp2_with fail
        go_ret
        exact ⟨rfl, below_two HB3.out HB4.out _ _ _⟩
    | false =>
      have HL := hide (fun w => lessBytes_c (K m) E w (by unfold maxLen; omega) (by unfold maxLen; omega))
      obtain ⟨b0, o0, rfl, hb0, hr0⟩ : ∃ b off, a = some ⟨b, off, none⟩ ∧ b < w2.heap.size ∧ Recs w2 b off (m + 1) K X Y Z := by
        rcases H.out with h | h
        · omega
        · exact h
      have hc0 := (hr0 m (by omega)).1
      clear hr0
      cases hle : Op.bytesLess (K m).toList E.toList with
      | false =>
        rw [hle] at HL
        go_wp2_with fail
        · go_ret
          exact ⟨rfl, Below.refl _ _⟩
        refine (HL.out _).mono ?_
        rintro e wL ⟨rfl, q0, rfl⟩
        go_wp2_with fail
        go_ret
        exact ⟨rfl, below_drewN (Below.refl _ _) _⟩
      | true =>
      have hlat : ((later (endOf (K m)) E).toList == E.toList) = true := by
        rw [later_toList, endOf_toList, laterL_end _ _ (Or.inr hle)]; simp
      have HM := hide (fun h => within_mono (endOf (K m)).toList E.toList kk.toList (by rw [endOf_toList]; exact laterL_end _ _ (Or.inr hle)) h)
      rw [hle] at HL
      clear hle
      go_wp2_with fail
      · go_ret
        exact ⟨rfl, Below.refl _ _⟩
      refine (HL.out _).mono ?_
      rintro e wL ⟨rfl, q0, rfl⟩
      go_wp2_with fail
      refine (clone_c (some ⟨b0, o0, none⟩) (m + 1) cap K X Y Z _ (by omega) (isReads_drewN H.out q0)).mono ?_
      rintro e w3 ⟨⟨a3, c3, rfl, h3⟩, hB3⟩
      have H3 := hide h3
      have HB3 := hide hB3
      clear h3 hB3
      go_wp2_with fail
      refine (toReads_c a3 (m + 1) c3 K X Y Z _ (by omega) H3.out).mono ?_
      rintro e w4 ⟨⟨a4, c4, rfl, h4⟩, hB4⟩
      have H4 := hide h4
      have HB4 := hide hB4
      clear h4 hB4
      have HR1 := hide (isRange_fst w4 S E false true (.slice a4 (m + 1) c4) 32)
      have HR2 := hide (isRange_snd w4 S E false true (.slice a4 (m + 1) c4) 32)
      have H5 := hide (isReads_two H4.out (Obj.cells #[Value.string S, Value.string E, Value.bool false, Value.slice a4 (m + 1) c4] 32) (Obj.cells #[Value.string S, Value.string E, Value.bool true, Value.slice a4 (m + 1) c4] 32))
      go_wp2_with fail
      refine (ZZcovered_c _ w4.heap.size S E false a4 (m + 1) c4 K X Y Z HR1.out H5.out (by omega) HK.out).mono ?_
      rintro e w5 ⟨rfl, q1, rfl⟩
      rw [covE_stop, covOk_stop]
      go_wp2_with fail
      refine (ZZcovered_c _ (w4.heap.size + 1) S E true a4 (m + 1) c4 K X Y Z (isRange_drewN HR2.out q1) (isReads_drewN H5.out q1) (by omega) HK.out).mono ?_
      rintro e w6 ⟨rfl, q2, rfl⟩
      rw [covE_done, covOk_done]
      go_wp2_with fail
      refine (ZZlaterEnd_c _ _ _).mono ?_
      rintro e w7 ⟨rfl, rfl⟩
      have HW1 := hide (fun w => within_c (endOf (K m)) kk w (by rw [endOf_size]; unfold maxLen; omega) (by unfold maxLen; omega))
      have HW2 := hide (fun w => within_c E kk w (by unfold maxLen; omega) (by unfold maxLen; omega))
      cases hw : withinL (endOf (K m)).toList kk.toList with
      | false =>
        rw [hw] at HW1
        go_wp2_with fail
        refine (HW1.out _).mono ?_
        rintro e w8 ⟨rfl, q3, rfl⟩
        go_wp2_with fail
        go_ret
        exact ⟨rfl, below_two (below_from HB3.out) HB4.out _ _ _⟩
      | true =>
        have hm := HM.out hw
        rw [hw] at HW1
        rw [hm] at HW2
        clear hw hm
        go_wp2_with fail
        refine (HW1.out _).mono ?_
        rintro e w8 ⟨rfl, q3, rfl⟩
        go_wp2_with fail
        refine (HW2.out _).mono ?_
        rintro e w9 ⟨rfl, q4, rfl⟩
        go_wp2_with fail
        go_ret
        exact ⟨rfl, below_two (below_from HB3.out) HB4.out _ _ _⟩

end Go.Proofs.Qxb6601246a
