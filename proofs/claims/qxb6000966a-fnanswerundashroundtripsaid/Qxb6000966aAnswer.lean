import Derived.Test.Qxb6000966aDash
/-! Answer: its contracts. -/
namespace Go.Proofs.Qxb6000966a
open Go.RowKit
set_option linter.unusedSimpArgs false

theorem bcell {W w1 : World} (hb : Below W.heap.size W w1) : (∀ b o, b < W.heap.size → w1.cell? ⟨b, o, none⟩ = W.cell? ⟨b, o, none⟩) ∧ (∀ b o, b < W.heap.size → w1.frozen? ⟨b, o, none⟩ = W.frozen? ⟨b, o, none⟩) :=
  ⟨fun b o h => hb.cell (p := ⟨b, o, none⟩) h, fun b o h => hb.frozen (p := ⟨b, o, none⟩) h⟩

/-- Eight cells of a block, carried over. -/
theorem keep8 {W w1 : World} {p : Nat} {v0 v1 v2 v3 v4 v5 v6 v7 : Value} (hb : Below W.heap.size W w1) (hp : p < W.heap.size)
    (h : W.cell? ⟨p, 0, none⟩ = some v0 ∧ W.cell? ⟨p, 1, none⟩ = some v1 ∧ W.cell? ⟨p, 2, none⟩ = some v2 ∧ W.cell? ⟨p, 3, none⟩ = some v3 ∧ W.cell? ⟨p, 4, none⟩ = some v4 ∧ W.cell? ⟨p, 5, none⟩ = some v5 ∧ W.cell? ⟨p, 6, none⟩ = some v6 ∧ W.cell? ⟨p, 7, none⟩ = some v7) :
    w1.cell? ⟨p, 0, none⟩ = some v0 ∧ w1.cell? ⟨p, 1, none⟩ = some v1 ∧ w1.cell? ⟨p, 2, none⟩ = some v2 ∧ w1.cell? ⟨p, 3, none⟩ = some v3 ∧ w1.cell? ⟨p, 4, none⟩ = some v4 ∧ w1.cell? ⟨p, 5, none⟩ = some v5 ∧ w1.cell? ⟨p, 6, none⟩ = some v6 ∧ w1.cell? ⟨p, 7, none⟩ = some v7 := by
  obtain ⟨h0, h1, h2, h3, h4, h5, h6, h7⟩ := h
  exact ⟨(hb.cell hp).trans h0, (hb.cell hp).trans h1, (hb.cell hp).trans h2, (hb.cell hp).trans h3, (hb.cell hp).trans h4, (hb.cell hp).trans h5, (hb.cell hp).trans h6, (hb.cell hp).trans h7⟩

set_option maxHeartbeats 1000000 in
theorem answer_nil (pr : ByteArray) (no : Int) (st re vd sb ca : ByteArray) (w : World) :
    Calls Try.prog 7 #[.agg #[.string pr, .int .i64 no, .string st, .string re, .string vd, .string sb, .string ca, .pointer none]] w
      fun e w' => e = .returned (.agg #[.string pr, .int .i64 no, .string st, .string (dash re), .string (dash vd), .string (dash sb), .string ca, .pointer none]) ∧ Below w.heap.size w w' := by
  have hne1 : w.heap.size + 1 + 1 ≠ w.heap.size := by omega
  go_enter Try.func7, Try.ntmps7
  go_wp2
  go_region_held3 (fun w' => w'.cell? ⟨w.heap.size, 0, none⟩ = some (.string pr) ∧ w'.cell? ⟨w.heap.size, 1, none⟩ = some (.int .i64 no) ∧ w'.cell? ⟨w.heap.size, 2, none⟩ = some (.string st) ∧ w'.cell? ⟨w.heap.size, 3, none⟩ = some (.string re) ∧ w'.cell? ⟨w.heap.size, 4, none⟩ = some (.string vd) ∧ w'.cell? ⟨w.heap.size, 5, none⟩ = some (.string sb) ∧ w'.cell? ⟨w.heap.size, 6, none⟩ = some (.string ca) ∧ w'.cell? ⟨w.heap.size, 7, none⟩ = some (.pointer none)) (go_keep)
    (first
      | (go_at_call 12; refine (orDash_c _ _).mono ?_; rintro e w' ⟨rfl, rfl⟩)
      | (go_at_call 11; refine (result_c _ _ _ _ _ _ _ _ _).mono ?_; rintro e w' ⟨rfl, hb⟩; have hS := keep8 (p := w.heap.size) hb (by simp; omega) (by assumption); obtain ⟨hc, hf⟩ := bcell hb; have hz := hb.size; simp at hz; have hne2 : w'.heap.size ≠ w.heap.size := (by omega); have hz1 : w.heap.size < w'.heap.size := (by omega); have hz2 : w.heap.size + 1 < w'.heap.size := (by omega)))
  all_goals go_wp2
  all_goals
    refine bodyPost_ret (v := .agg #[.string pr, .int .i64 no, .string st, .string (dash re), .string (dash vd), .string (dash sb), .string ca, .pointer none]) ?_ rfl ⟨rfl, ?_⟩
  all_goals first
    | (simp [results, Try.results7, go_sem, hc, hz2]; done)
    | (have HB : Below w.heap.size w w' := Below.trans (by repeat (first | (with_reducible exact Below.refl _ _) | with_reducible refine Below.drew ?_ | with_reducible refine Below.alloc ?_ (by first | (with_reducible exact Nat.le_refl _) | omega | (simp only [World.size_alloc, World.size_setCell, World.size_drew]; omega)) _)) (hb.mono (by first | (with_reducible exact Nat.le_refl _) | omega | (simp only [World.size_alloc, World.size_setCell, World.size_drew]; omega)))
       repeat (first | (with_reducible exact HB) | with_reducible refine Below.drew ?_ | with_reducible refine Below.alloc ?_ (by first | (with_reducible exact Nat.le_refl _) | omega | (simp only [World.size_alloc, World.size_setCell, World.size_drew]; omega)) _ | with_reducible refine Below.setCell ?_ (by first | (with_reducible exact Nat.le_refl _) | omega | (simp only [World.size_alloc, World.size_setCell, World.size_drew]; omega)) _))

end Go.Proofs.Qxb6000966a
