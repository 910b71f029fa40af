import Derived.Test.Qxb6001059aAuto
/-! The closure that reads digits: its contract. -/
namespace Go.Proofs.Qxb6001059a
open Go.RowKit
set_option linter.unusedSimpArgs false

/-- Where isNumber stands: its slice lies boxed in block N, its counter, at i, in block N + 1. -/
structure NumSt (W : World) (N b off n cap : Nat) (Z : Nat → Int) (i : Nat) : Prop where
  sl : W.cell? ⟨N, 0, none⟩ = some (.slice (some ⟨b, off, none⟩) n cap)
  ix : W.cell? ⟨N + 1, 0, none⟩ = some (.int .i64 (i : Int))
  fz : W.frozen? ⟨N + 1, 0, none⟩ = false
  bs : Bytes W b off n Z
  sz : N + 1 < W.heap.size
  bN : b < N

/-- The counter as it lies in memory. -/
def iAt (w : World) (N : Nat) : Nat := (intOf ((w.cell? ⟨N + 1, 0, none⟩).getD undef)).toNat
theorem iAt_of {w : World} {N k : Nat} (h : w.cell? ⟨N + 1, 0, none⟩ = some (.int .i64 (k : Int))) : iAt w N = k := by
  simp [iAt, h, intOf]

theorem numSt_set {W : World} {N b off n cap : Nat} {Z : Nat → Int} {i : Nat} (h : NumSt W N b off n cap Z i) (j : Nat) (x : Int) (hx : x = (j : Int)) : NumSt (W.setCell ⟨N + 1, 0, none⟩ (.int .i64 x)) N b off n cap Z j where
  sl := by rw [World.cell?_setCell_other _ _ _ _ (fun e => by injection e with e _ _; omega)]; exact h.sl
  ix := by rw [World.cell?_setCell_same _ _ _ h.ix, hx]
  fz := by rw [World.frozen?_setCell]; exact h.fz
  bs := fun k hk => by rw [World.cell?_setCell_other _ _ _ _ (fun e => by have := h.bN; injection e with e _ _; omega)]; exact h.bs k hk
  sz := by rw [World.size_setCell]; exact h.sz
  bN := h.bN

set_option maxRecDepth 100000 in
set_option maxHeartbeats 1000000 in
theorem digits_some (N b off n cap : Nat) (Z : Nat → Int) (i : Nat) (W : World) (hn : n ≤ 65536) (hi : i ≤ n) (h : NumSt W N b off n cap Z i) :
    Calls Try.prog 18 #[.pointer (some ⟨N + 1, 0, none⟩), .pointer (some ⟨N, 0, none⟩)] W fun e w' => e = .returned (.int .i64 ((dEnd Z n i : Int) - (i : Int))) ∧ NumSt w' N b off n cap Z (dEnd Z n i) ∧ Below (N + 1) W w' := by
  have hix := h.ix
  have H := hide h
  clear h
  go_enter Try.func18, Try.ntmps18
  go_wp2
  go_loopw [] (fun wr => ∃ k : Nat, i ≤ k ∧ k ≤ n ∧ Hid (NumSt wr N b off n cap Z k) ∧ Hid (Below (N + 1) W wr) ∧ Hid (dEnd Z n k = dEnd Z n i)) (fun wr => n - iAt wr N)
  case atStart => exact ⟨i, Nat.le_refl _, hi, H, Below.refl _ _, hide rfl⟩
  case round =>
    obtain ⟨k, hik, hkn, HS, HB, HD⟩ := hrel
    have c0 := HS.out.sl
    have c1 := HS.out.ix
    have c2 := HS.out.fz
    by_cases hlt : k < n
    · have c3 := HS.out.bs k hlt
      by_cases h1 : 48 ≤ Z k
      · by_cases h2 : Z k ≤ 57
        · have HT := hide (numSt_set HS.out (k + 1) ((k : Int) + 1) (by omega))
          have HE := hide (dEnd_step Z n k hlt (by unfold isDig; simp; omega))
          go_wp2
          go_roundw
          case rel => exact ⟨k + 1, by omega, hlt, hide HT.out, HB.out.setCell (Nat.le_refl _) _, by rw [← HE.out]; exact HD⟩
          case measure =>
            rw [iAt_of HT.out.ix, iAt_of HS.out.ix]
            omega
        · have HE := hide (dEnd_stop Z n k (by unfold isDig; simp; omega))
          go_wp2
          go_ret
          exact ⟨ret_int (by rw [← HD.out, HE.out]), by rw [← HD.out, HE.out]; exact HS.out, HB.out⟩
      · have HE := hide (dEnd_stop Z n k (by unfold isDig; simp; omega))
        go_wp2
        go_ret
        exact ⟨ret_int (by rw [← HD.out, HE.out]), by rw [← HD.out, HE.out]; exact HS.out, HB.out⟩
    · have HE := hide (dEnd_over Z n k (by omega))
      go_wp2
      go_ret
      exact ⟨ret_int (by rw [← HD.out, HE.out]), by rw [← HD.out, HE.out]; exact HS.out, HB.out⟩

set_option maxHeartbeats 1000000 in
theorem digits_none (N cap : Nat) (a : Option Addr) (W : World) (h0 : W.cell? ⟨N, 0, none⟩ = some (.slice a 0 cap)) (h1 : W.cell? ⟨N + 1, 0, none⟩ = some (.int .i64 0)) :
    Calls Try.prog 18 #[.pointer (some ⟨N + 1, 0, none⟩), .pointer (some ⟨N, 0, none⟩)] W fun e w' => e = .returned (.int .i64 0) ∧ w' = W := by
  go_enter Try.func18, Try.ntmps18
  go_wp2
  go_loopw [] (fun wr => wr = W) (fun _ => 0)
  case atStart => exact rfl
  case round =>
    subst hrel
    go_wp2
    go_ret
    exact ⟨rfl, rfl⟩
end Go.Proofs.Qxb6001059a
