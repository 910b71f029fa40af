import Derived.Test.Qxb6001059aAuto
/-! zzCopyBytes, zzBytes: their contracts. -/
namespace Go.Proofs.Qxb6001059a
open Go.RowKit
set_option linter.unusedSimpArgs false

theorem Try.info5 : (Try.prog.info? 5).map (fun i => (i.zero, i.size, i.bytes)) = some (some (.int .u8 0), 1, 1) := by kernel_rfl

/-- Room for n bytes, not frozen, from the head of block b on. -/
def Room (w : World) (b n : Nat) : Prop := ∀ j, j < n → (∃ v, w.cell? ⟨b, j, none⟩ = some v) ∧ w.frozen? ⟨b, j, none⟩ = false

theorem room_made (w : World) (z : Array Value) (n : Nat) (e : TypeId) : Room (w.alloc (.cells (madeCells z n) e)) w.heap.size n := by
  intro j hj
  refine ⟨?_, World.frozen?_alloc_new w _ _ _⟩
  rw [World.cell?_alloc_new]
  exact ⟨_, Array.getElem?_eq_getElem (by rw [size_madeCells]; exact hj)⟩

theorem room_set {w : World} {b n : Nat} (h : Room w b n) (a : Addr) (v : Value) : Room (w.setCell a v) b n := by
  intro j hj
  obtain ⟨⟨u, hu⟩, hf⟩ := h j hj
  refine ⟨?_, by rw [World.frozen?_setCell]; exact hf⟩
  by_cases e : a = ⟨b, j, none⟩
  · subst e; exact ⟨v, World.cell?_setCell_same _ _ _ hu⟩
  · exact ⟨u, by rw [World.cell?_setCell_other _ _ _ _ e]; exact hu⟩

theorem bytes_step {w : World} {b n k : Nat} {Z : Nat → Int} (hlt : k < n) (h : Bytes w b 0 k Z) (hR : Room w b n) :
    Bytes (w.setCell ⟨b, k, none⟩ (.int .u8 (Z k))) b 0 (k + 1) Z := by
  intro j hj
  simp only [Nat.zero_add]
  by_cases e : j = k
  · subst e
    obtain ⟨⟨u, hu⟩, _⟩ := hR j hlt
    exact World.cell?_setCell_same _ _ _ hu
  · rw [World.cell?_setCell_other _ _ _ _ (fun e' => e (by injection e' with _ e'' _; exact e''.symm))]
    have := h j (by omega)
    simpa using this

set_option maxHeartbeats 400000 in
theorem copy_some (b off n cap : Nat) (Z : Nat → Int) (w : World) (hn : n ≤ 65536) (hb : b < w.heap.size) (h : Bytes w b off n Z) :
    Calls Try.prog 8 #[.slice (some ⟨b, off, none⟩) n cap] w fun e w' => e = .returned (.slice (some ⟨w.heap.size, 0, none⟩) n n) ∧ Bytes w' w.heap.size 0 n Z ∧ Below w.heap.size w w' ∧ w.heap.size < w'.heap.size := by
  obtain ⟨i0, hi, hz0, hz1, hz2⟩ := info_parts Try.info5
  have hmk := fun w => run_make (P := Try.prog) w 22 5 i0 _ Try.underlying22 hi hz0 .i64 .i64 (n : Int) (n : Int) (by omega) (by omega) (by rw [hz2]; omega) (by omega)
  rw [hz1] at hmk
  simp only [Int.toNat_natCast, Nat.mul_one] at hmk
  clear hi hz0 hz1 hz2
  have hq := fun w => Lib.run_eql_slice_nil (P := Try.prog) w 22 5 (some ⟨b, off, none⟩) n cap 0 0 Try.underlying22
  go_enter Try.func8, Try.ntmps8
  go_wp2
  go_loopw [4] (fun i wr => ∃ k : Nat, k ≤ n ∧ i = .int .i64 k ∧ Hid (Bytes wr w.heap.size 0 k Z) ∧ Hid (Room wr w.heap.size n) ∧ Hid (Below w.heap.size w wr) ∧ w.heap.size < wr.heap.size) (fun i _ => n - (intOf i).toNat)
  case atStart => exact ⟨0, Nat.zero_le _, rfl, fun i hi => absurd hi (Nat.not_lt_zero _), room_made _ _ _ _, (Below.refl _ _).alloc (Nat.le_refl _) _, by simp⟩
  case round =>
    obtain ⟨k, hk, rfl, HR, HM, HB, hsz⟩ := hrel
    by_cases hlt : k < n
    · have c0 := (HB.out.cell (p := ⟨b, off + k, none⟩) hb).trans (h k hlt)
      obtain ⟨⟨u0, d0⟩, f0⟩ := HM.out k hlt
      have HS := hide (bytes_step hlt HR.out HM.out)
      clear h
      go_wp2
      go_roundw
      case rel => exact ⟨k + 1, hlt, by go_num, HS.out, room_set HM.out _ _, HB.out.setCell (Nat.le_refl _) _, by simpa using hsz⟩
      case measure => simp [intOf]; omega
    · have ek : k = n := by omega
      clear h
      go_wp2
      go_ret
      exact ⟨rfl, by rw [← ek]; exact HR.out, HB.out, hsz⟩

set_option maxHeartbeats 400000 in
theorem copy_none (a : Option Addr) (cap : Nat) (w : World) :
    Calls Try.prog 8 #[.slice a 0 cap] w fun e w' => (∃ a' c', e = .returned (.slice a' 0 c')) ∧ Below w.heap.size w w' := by
  obtain ⟨i0, hi, hz0, hz1, hz2⟩ := info_parts Try.info5
  have hmk := fun w => run_make (P := Try.prog) w 22 5 i0 _ Try.underlying22 hi hz0 .i64 .i64 0 0 (by omega) (by omega) (by rw [hz2]; omega) (by omega)
  rw [hz1] at hmk
  clear hi hz0 hz1 hz2
  have hq := fun w => Lib.run_eql_slice_nil (P := Try.prog) w 22 5 a 0 cap 0 0 Try.underlying22
  cases a with
  | none =>
    go_enter Try.func8, Try.ntmps8
    go_wp2
    go_ret
    exact ⟨⟨_, _, rfl⟩, Below.refl _ _⟩
  | some a =>
    go_enter Try.func8, Try.ntmps8
    go_wp2
    go_loop [4] (fun i => i = .int .i64 0) (fun _ => 0)
    case atStart => exact rfl
    case round =>
      subst hrel
      go_wp2
      go_ret
      exact ⟨⟨_, _, rfl⟩, (Below.refl _ _).alloc (Nat.le_refl _) _⟩

theorem copy_c (a : Option Addr) (n cap : Nat) (Z : Nat → Int) (w : World) (hn : n ≤ 65536) (h : IsBytes w a n Z) :
    Calls Try.prog 8 #[.slice a n cap] w fun e w' => (∃ a' c', e = .returned (.slice a' n c') ∧ IsBytes w' a' n Z) ∧ Below w.heap.size w w' := by
  rcases h with rfl | ⟨b, off, rfl, hb, h⟩
  · refine (copy_none a cap w).mono ?_
    rintro e w' ⟨⟨a', c', rfl⟩, hw⟩
    exact ⟨⟨a', c', rfl, Or.inl rfl⟩, hw⟩
  · refine (copy_some b off n cap Z w hn hb h).mono ?_
    rintro e w' ⟨rfl, hr, hw, hs⟩
    exact ⟨⟨_, _, rfl, Or.inr ⟨_, _, rfl, hs, hr⟩⟩, hw⟩

/-- It returns a bool. -/
def SomeBool (e : Ending) : Prop := ∃ r : Bool, e = .returned (.bool r)
theorem SomeBool.mk (r : Bool) : SomeBool (.returned (.bool r)) := ⟨r, rfl⟩

theorem zz7_c (a : Option Addr) (n cap : Nat) (w : World) (hn : n ≤ maxLen) :
    Calls Try.prog 7 #[.slice a n cap] w fun e w' => SomeBool e ∧ w' = w := by
  unfold maxLen at hn
  go_enter Try.func7, Try.ntmps7
  go_wp2
  all_goals
    go_ret
    exact ⟨SomeBool.mk _, rfl⟩
end Go.Proofs.Qxb6001059a
