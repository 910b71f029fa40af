import Derived.Test.Qxb6601246aReads
import Derived.WalkSpells
/-! cloneReadIns, toReads: their contracts. -/
namespace Go.Proofs.Qxb6601246a
open Go.RowKit

theorem Try.info38 : (Try.prog.info? 38).map (fun i => (i.zero, i.size, i.bytes)) = some (some (.agg #[.string ⟨#[]⟩, .int .u64 0, .int .u64 0, .bool false]), 4, 40) := by kernel_rfl
theorem Try.info43 : (Try.prog.info? 43).map (fun i => (i.zero, i.size, i.bytes)) = some (some (.agg #[.string ⟨#[]⟩, .int .u64 0, .int .u64 0, .bool false]), 4, 40) := by kernel_rfl

/-- Room for n records, not frozen, from the head of block b on. -/
def Room (w : World) (b n : Nat) : Prop := ∀ j, j < n * 4 → (∃ v, w.cell? ⟨b, j, none⟩ = some v) ∧ w.frozen? ⟨b, j, none⟩ = false

theorem room_made (w : World) (z : Array Value) (n : Nat) (e : TypeId) : Room (w.alloc (.cells (madeCells z (n * 4)) e)) w.heap.size n := by
  intro j hj
  refine ⟨?_, World.frozen?_alloc_new w _ _ _⟩
  rw [World.cell?_alloc_new]
  exact ⟨_, Array.getElem?_eq_getElem (by rw [size_madeCells]; exact hj)⟩

theorem room_set {w : World} {b n : Nat} (h : Room w b n) (a : Addr) (v : Value) : Room (w.setCell a v) b n := by
  intro j hj
  obtain ⟨⟨u, hu⟩, hf⟩ := h j hj
  refine ⟨?_, by rw [World.frozen?_setCell]; exact hf⟩
  by_cases e : a = ⟨b, j, none⟩
  · subst e; exact ⟨v, World.cell?_setCell_same _ _ _ hu⟩
  · exact ⟨u, by rw [World.cell?_setCell_other _ _ _ _ e]; exact hu⟩

/-- The world behind the storing of record k at the head of block b. -/
def put4 (w : World) (b k : Nat) (s : ByteArray) (x y : Int) (z : Bool) : World :=
  (((w.setCell ⟨b, k * 4, none⟩ (.string s)).setCell ⟨b, k * 4 + 1, none⟩ (.int .u64 x)).setCell ⟨b, k * 4 + 2, none⟩ (.int .u64 y)).setCell ⟨b, k * 4 + 3, none⟩ (.bool z)

theorem cell_set_ne (w : World) (b i j : Nat) (v : Value) (h : i ≠ j) : (w.setCell ⟨b, i, none⟩ v).cell? ⟨b, j, none⟩ = w.cell? ⟨b, j, none⟩ :=
  World.cell?_setCell_other _ _ _ _ (fun e => h (by injection e))

theorem recs_step {w : World} {b n k : Nat} {K : Nat → ByteArray} {X Y : Nat → Int} {Z : Nat → Bool} (hlt : k < n) (h : Recs w b 0 k K X Y Z) (hR : Room w b n) :
    Recs (put4 w b k (K k) (X k) (Y k) (Z k)) b 0 (k + 1) K X Y Z ∧ Room (put4 w b k (K k) (X k) (Y k) (Z k)) b n := by
  unfold put4
  refine ⟨?_, room_set (room_set (room_set (room_set hR _ _) _ _) _ _) _ _⟩
  intro i hi
  simp only [Nat.zero_add]
  by_cases e : i = k
  · subst e
    obtain ⟨⟨u0, h0⟩, _⟩ := hR (i * 4) (by omega)
    obtain ⟨⟨u1, h1⟩, _⟩ := hR (i * 4 + 1) (by omega)
    obtain ⟨⟨u2, h2⟩, _⟩ := hR (i * 4 + 2) (by omega)
    obtain ⟨⟨u3, h3⟩, _⟩ := hR (i * 4 + 3) (by omega)
    refine ⟨?_, ?_, ?_, ?_⟩
    · rw [cell_set_ne _ _ _ _ _ (by omega), cell_set_ne _ _ _ _ _ (by omega), cell_set_ne _ _ _ _ _ (by omega), World.cell?_setCell_same _ _ _ h0]
    · rw [cell_set_ne _ _ _ _ _ (by omega), cell_set_ne _ _ _ _ _ (by omega)]
      exact World.cell?_setCell_same _ _ _ (u := u1) (by rw [cell_set_ne _ _ _ _ _ (by omega)]; exact h1)
    · rw [cell_set_ne _ _ _ _ _ (by omega)]
      exact World.cell?_setCell_same _ _ _ (u := u2) (by rw [cell_set_ne _ _ _ _ _ (by omega), cell_set_ne _ _ _ _ _ (by omega)]; exact h2)
    · exact World.cell?_setCell_same _ _ _ (u := u3) (by rw [cell_set_ne _ _ _ _ _ (by omega), cell_set_ne _ _ _ _ _ (by omega), cell_set_ne _ _ _ _ _ (by omega)]; exact h3)
  · have g := h i (by omega)
    simp only [Nat.zero_add] at g
    have t : ∀ (j : Nat), j ≠ k * 4 → j ≠ k * 4 + 1 → j ≠ k * 4 + 2 → j ≠ k * 4 + 3 → (put4 w b k (K k) (X k) (Y k) (Z k)).cell? ⟨b, j, none⟩ = w.cell? ⟨b, j, none⟩ := by
      intro j j0 j1 j2 j3
      unfold put4
      rw [cell_set_ne _ _ _ _ _ (Ne.symm j3), cell_set_ne _ _ _ _ _ (Ne.symm j2), cell_set_ne _ _ _ _ _ (Ne.symm j1), cell_set_ne _ _ _ _ _ (Ne.symm j0)]
    unfold put4 at t
    refine ⟨?_, ?_, ?_, ?_⟩
    · rw [t _ (by omega) (by omega) (by omega) (by omega)]; exact g.1
    · rw [t _ (by omega) (by omega) (by omega) (by omega)]; exact g.2.1
    · rw [t _ (by omega) (by omega) (by omega) (by omega)]; exact g.2.2.1
    · rw [t _ (by omega) (by omega) (by omega) (by omega)]; exact g.2.2.2

theorem recs_drew {w : World} {b off n : Nat} {K : Nat → ByteArray} {X Y : Nat → Int} {Z : Nat → Bool} (h : Recs w b off n K X Y Z) : Recs w.drew b off n K X Y Z := h
theorem room_drew {w : World} {b n : Nat} (h : Room w b n) : Room w.drew b n := h

theorem below_put4 {B : Nat} {w wr : World} (h : Below B w wr) (k : Nat) (s : ByteArray) (x y : Int) (z : Bool) : Below B w (put4 wr B k s x y z) :=
  (((h.setCell (Nat.le_refl _) _).setCell (Nat.le_refl _) _).setCell (Nat.le_refl _) _).setCell (Nat.le_refl _) _

set_option maxHeartbeats 400000 in
theorem clone_some (b off n cap : Nat) (K : Nat → ByteArray) (X Y : Nat → Int) (Z : Nat → Bool) (w : World) (hn : n ≤ 1048576) (hb : b < w.heap.size) (h : Recs w b off n K X Y Z) :
    Calls Try.prog 14 #[.slice (some ⟨b, off, none⟩) n cap] w fun e w' => e = .returned (.slice (some ⟨w.heap.size, 0, none⟩) n n) ∧ Recs w' w.heap.size 0 n K X Y Z ∧ Below w.heap.size w w' ∧ w.heap.size < w'.heap.size := by
  obtain ⟨i0, hi, hz0, hz1, hz2⟩ := info_parts Try.info38
  have hmk := fun w => run_make (P := Try.prog) w 25 38 i0 _ Try.underlying25 hi hz0 .i64 .i64 (n : Int) (n : Int) (by omega) (by omega) (by rw [hz2]; omega) (by omega)
  rw [hz1] at hmk
  simp only [Int.toNat_natCast] at hmk
  clear hi hz0 hz1 hz2
  have hq := fun w => Lib.run_eql_slice_nil (P := Try.prog) w 25 38 (some ⟨b, off, none⟩) n cap 0 0 Try.underlying25
  go_enter Try.func14, Try.ntmps14
  go_wp2
  go_loopw [4] (fun i wr => ∃ k : Nat, k ≤ n ∧ i = .int .i64 k ∧ Hid (Recs wr w.heap.size 0 k K X Y Z) ∧ Hid (Room wr w.heap.size n) ∧ Hid (Below w.heap.size w wr) ∧ w.heap.size < wr.heap.size) (fun i _ => n - (intOf i).toNat)
  case atStart => exact ⟨0, Nat.zero_le _, rfl, fun i hi => absurd hi (Nat.not_lt_zero _), room_made _ _ _ _, (Below.refl _ _).alloc (Nat.le_refl _) _, by simp⟩
  case round =>
    obtain ⟨k, hk, rfl, HR, HM, HB, hsz⟩ := hrel
    by_cases hlt : k < n
    · obtain ⟨s0, s1, s2, s3⟩ := h k hlt
      have c0 := (HB.out.cell (p := ⟨b, off + k * 4, none⟩) hb).trans s0
      have c1 := (HB.out.cell (p := ⟨b, off + k * 4 + 1, none⟩) hb).trans s1
      have c2 := (HB.out.cell (p := ⟨b, off + k * 4 + 2, none⟩) hb).trans s2
      have c3 := (HB.out.cell (p := ⟨b, off + k * 4 + 3, none⟩) hb).trans s3
      obtain ⟨⟨u0, d0⟩, f0⟩ := HM.out (k * 4) (by omega)
      obtain ⟨⟨u1, d1⟩, f1⟩ := HM.out (k * 4 + 1) (by omega)
      obtain ⟨⟨u2, d2⟩, f2⟩ := HM.out (k * 4 + 2) (by omega)
      obtain ⟨⟨u3, d3⟩, f3⟩ := HM.out (k * 4 + 3) (by omega)
      clear s0 s1 s2 s3
      have HS : Hid _ := recs_step hlt HR.out HM.out
      go_wp2
      go_roundw
      case rel => exact ⟨k + 1, hlt, by go_num, HS.out.1, HS.out.2, below_put4 HB.out _ _ _ _ _, by simpa using hsz⟩
      case measure => simp [intOf]; omega
    · have ek : k = n := by omega
      go_wp2
      go_ret
      exact ⟨rfl, by rw [← ek]; exact HR.out, HB.out, hsz⟩

set_option maxHeartbeats 400000 in
theorem clone_none (a : Option Addr) (cap : Nat) (w : World) :
    Calls Try.prog 14 #[.slice a 0 cap] w fun e w' => (∃ a' c', e = .returned (.slice a' 0 c')) ∧ Below w.heap.size w w' := by
  obtain ⟨i0, hi, hz0, hz1, hz2⟩ := info_parts Try.info38
  have hmk := fun w => run_make (P := Try.prog) w 25 38 i0 _ Try.underlying25 hi hz0 .i64 .i64 0 0 (by omega) (by omega) (by rw [hz2]; omega) (by omega)
  rw [hz1] at hmk
  clear hi hz0 hz1 hz2
  have hq := fun w => Lib.run_eql_slice_nil (P := Try.prog) w 25 38 a 0 cap 0 0 Try.underlying25
  cases a with
  | none =>
    go_enter Try.func14, Try.ntmps14
    go_wp2
    go_ret
    exact ⟨⟨_, _, rfl⟩, Below.refl _ _⟩
  | some a =>
    go_enter Try.func14, Try.ntmps14
    go_wp2
    go_loop [4] (fun i => i = .int .i64 0) (fun _ => 0)
    case atStart => exact rfl
    case round =>
      subst hrel
      go_wp2
      go_ret
      exact ⟨⟨_, _, rfl⟩, (Below.refl _ _).alloc (Nat.le_refl _) _⟩

theorem clone_c (a : Option Addr) (n cap : Nat) (K : Nat → ByteArray) (X Y : Nat → Int) (Z : Nat → Bool) (w : World) (hn : n ≤ 1048576) (h : IsReads w a n K X Y Z) :
    Calls Try.prog 14 #[.slice a n cap] w fun e w' => (∃ a' c', e = .returned (.slice a' n c') ∧ IsReads w' a' n K X Y Z) ∧ Below w.heap.size w w' := by
  rcases h with rfl | ⟨b, off, rfl, hb, h⟩
  · refine (clone_none a cap w).mono ?_
    rintro e w' ⟨⟨a', c', rfl⟩, hw⟩
    exact ⟨⟨a', c', rfl, Or.inl rfl⟩, hw⟩
  · refine (clone_some b off n cap K X Y Z w hn hb h).mono ?_
    rintro e w' ⟨rfl, hr, hw, hs⟩
    exact ⟨⟨_, _, rfl, Or.inr ⟨_, _, rfl, hs, hr⟩⟩, hw⟩

set_option maxHeartbeats 400000 in
theorem toReads_some (b off n cap : Nat) (K : Nat → ByteArray) (X Y : Nat → Int) (Z : Nat → Bool) (w : World) (hn : n ≤ 1048576) (hb : b < w.heap.size) (h : Recs w b off n K X Y Z) :
    Calls Try.prog 15 #[.slice (some ⟨b, off, none⟩) n cap] w fun e w' => e = .returned (.slice (some ⟨w.heap.size, 0, none⟩) n n) ∧ Recs w' w.heap.size 0 n K X Y Z ∧ Below w.heap.size w w' ∧ w.heap.size < w'.heap.size := by
  obtain ⟨i0, hi, hz0, hz1, hz2⟩ := info_parts Try.info43
  have hmk := fun w => run_make (P := Try.prog) w 29 43 i0 _ Try.underlying29 hi hz0 .i64 .i64 (n : Int) (n : Int) (by omega) (by omega) (by rw [hz2]; omega) (by omega)
  rw [hz1] at hmk
  simp only [Int.toNat_natCast] at hmk
  clear hi hz0 hz1 hz2
  go_enter Try.func15, Try.ntmps15
  go_wp2
  go_loopw [4] (fun i wr => ∃ k : Nat, k ≤ n ∧ i = .int .i64 k ∧ Hid (Recs wr w.heap.size 0 k K X Y Z) ∧ Hid (Room wr w.heap.size n) ∧ Hid (Below w.heap.size w wr) ∧ w.heap.size < wr.heap.size) (fun i _ => n - (intOf i).toNat)
  case atStart => exact ⟨0, Nat.zero_le _, rfl, fun i hi => absurd hi (Nat.not_lt_zero _), room_made _ _ _ _, (Below.refl _ _).alloc (Nat.le_refl _) _, by simp⟩
  case round =>
    obtain ⟨k, hk, rfl, HR, HM, HB, hsz⟩ := hrel
    by_cases hlt : k < n
    · obtain ⟨s0, s1, s2, s3⟩ := h k hlt
      have c0 := (HB.out.cell (p := ⟨b, off + k * 4, none⟩) hb).trans s0
      have c1 := (HB.out.cell (p := ⟨b, off + k * 4 + 1, none⟩) hb).trans s1
      have c2 := (HB.out.cell (p := ⟨b, off + k * 4 + 2, none⟩) hb).trans s2
      have c3 := (HB.out.cell (p := ⟨b, off + k * 4 + 3, none⟩) hb).trans s3
      obtain ⟨⟨u0, d0⟩, f0⟩ := HM.out (k * 4) (by omega)
      obtain ⟨⟨u1, d1⟩, f1⟩ := HM.out (k * 4 + 1) (by omega)
      obtain ⟨⟨u2, d2⟩, f2⟩ := HM.out (k * 4 + 2) (by omega)
      obtain ⟨⟨u3, d3⟩, f3⟩ := HM.out (k * 4 + 3) (by omega)
      clear s0 s1 s2 s3
      have HS : Hid _ := recs_step hlt HR.out HM.out
      have hlt' : (k : Int) < (n : Int) := by omega
      go_wp2
      go_region
      go_wp2
      go_roundw
      case rel => exact ⟨k + 1, hlt, by go_num, recs_drew HS.out.1, room_drew HS.out.2, (below_put4 HB.out _ _ _ _ _).drew, by simpa using hsz⟩
      case measure => simp [intOf]; omega
    · have ek : k = n := by omega
      go_wp2
      go_ret
      exact ⟨rfl, by rw [← ek]; exact HR.out, HB.out, hsz⟩

set_option maxHeartbeats 400000 in
theorem toReads_none (a : Option Addr) (cap : Nat) (w : World) :
    Calls Try.prog 15 #[.slice a 0 cap] w fun e w' => (∃ a' c', e = .returned (.slice a' 0 c')) ∧ Below w.heap.size w w' := by
  obtain ⟨i0, hi, hz0, hz1, hz2⟩ := info_parts Try.info43
  have hmk := fun w => run_make (P := Try.prog) w 29 43 i0 _ Try.underlying29 hi hz0 .i64 .i64 0 0 (by omega) (by omega) (by rw [hz2]; omega) (by omega)
  rw [hz1] at hmk
  clear hi hz0 hz1 hz2
  go_enter Try.func15, Try.ntmps15
  go_wp2
  go_loop [4] (fun i => i = .int .i64 0) (fun _ => 0)
  case atStart => exact rfl
  case round =>
    subst hrel
    go_wp2
    go_ret
    exact ⟨⟨_, _, rfl⟩, (Below.refl _ _).alloc (Nat.le_refl _) _⟩

theorem toReads_c (a : Option Addr) (n cap : Nat) (K : Nat → ByteArray) (X Y : Nat → Int) (Z : Nat → Bool) (w : World) (hn : n ≤ 1048576) (h : IsReads w a n K X Y Z) :
    Calls Try.prog 15 #[.slice a n cap] w fun e w' => (∃ a' c', e = .returned (.slice a' n c') ∧ IsReads w' a' n K X Y Z) ∧ Below w.heap.size w w' := by
  rcases h with rfl | ⟨b, off, rfl, hb, h⟩
  · refine (toReads_none a cap w).mono ?_
    rintro e w' ⟨⟨a', c', rfl⟩, hw⟩
    exact ⟨⟨a', c', rfl, Or.inl rfl⟩, hw⟩
  · refine (toReads_some b off n cap K X Y Z w hn hb h).mono ?_
    rintro e w' ⟨rfl, hr, hw, hs⟩
    exact ⟨⟨_, _, rfl, Or.inr ⟨_, _, rfl, hs, hr⟩⟩, hw⟩

/-- What was there is there, in whatever world lies 'Below'. -/
theorem isReads_below {w w' : World} {a : Option Addr} {n : Nat} {K : Nat → ByteArray} {X Y : Nat → Int} {Z : Nat → Bool} (hB : Below w.heap.size w w') (h : IsReads w a n K X Y Z) : IsReads w' a n K X Y Z := by
  rcases h with h | ⟨b, off, rfl, hb, h⟩
  · exact Or.inl h
  · refine Or.inr ⟨b, off, rfl, Nat.lt_of_lt_of_le hb hB.size, fun i hi => ?_⟩
    obtain ⟨h0, h1, h2, h3⟩ := h i hi
    exact ⟨(hB.cell hb).trans h0, (hB.cell hb).trans h1, (hB.cell hb).trans h2, (hB.cell hb).trans h3⟩
end Go.Proofs.Qxb6601246a
