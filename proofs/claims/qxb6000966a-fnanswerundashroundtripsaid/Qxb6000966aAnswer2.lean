import Derived.Test.Qxb6000966aAnswer
/-! Answer, where there is a first decision: its contract. -/
namespace Go.Proofs.Qxb6000966a
open Go.RowKit
set_option linter.unusedSimpArgs false

/-- Eight cells, as a word. -/
def Box8 (w : World) (p : Nat) (v0 v1 v2 v3 v4 v5 v6 v7 : Value) : Prop :=
  w.cell? ⟨p, 0, none⟩ = some v0 ∧ w.cell? ⟨p, 1, none⟩ = some v1 ∧ w.cell? ⟨p, 2, none⟩ = some v2 ∧ w.cell? ⟨p, 3, none⟩ = some v3 ∧ w.cell? ⟨p, 4, none⟩ = some v4 ∧ w.cell? ⟨p, 5, none⟩ = some v5 ∧ w.cell? ⟨p, 6, none⟩ = some v6 ∧ w.cell? ⟨p, 7, none⟩ = some v7

theorem set_ne (w : World) (b i j : Nat) (v : Value) (h : i ≠ j) : (w.setCell ⟨b, i, none⟩ v).cell? ⟨b, j, none⟩ = w.cell? ⟨b, j, none⟩ :=
  World.cell?_setCell_other _ _ _ _ (fun e => h (by injection e))

theorem set8_box {w : World} {p : Nat} {u0 u1 u2 u3 u4 u5 u6 u7 : Value} (v0 v1 v2 v3 v4 v5 v6 v7 : Value) (h : Box8 w p u0 u1 u2 u3 u4 u5 u6 u7) :
    Box8 ((((((((w.setCell ⟨p, 0, none⟩ v0).setCell ⟨p, 1, none⟩ v1).setCell ⟨p, 2, none⟩ v2).setCell ⟨p, 3, none⟩ v3).setCell ⟨p, 4, none⟩ v4).setCell ⟨p, 5, none⟩ v5).setCell ⟨p, 6, none⟩ v6).setCell ⟨p, 7, none⟩ v7) p v0 v1 v2 v3 v4 v5 v6 v7 := by
  obtain ⟨h0, h1, h2, h3, h4, h5, h6, h7⟩ := h
  refine ⟨?_, ?_, ?_, ?_, ?_, ?_, ?_, ?_⟩
  · rw [set_ne _ _ _ _ _ (by omega), set_ne _ _ _ _ _ (by omega), set_ne _ _ _ _ _ (by omega), set_ne _ _ _ _ _ (by omega), set_ne _ _ _ _ _ (by omega), set_ne _ _ _ _ _ (by omega), set_ne _ _ _ _ _ (by omega)]
    exact World.cell?_setCell_same _ _ _ h0
  · rw [set_ne _ _ _ _ _ (by omega), set_ne _ _ _ _ _ (by omega), set_ne _ _ _ _ _ (by omega), set_ne _ _ _ _ _ (by omega), set_ne _ _ _ _ _ (by omega), set_ne _ _ _ _ _ (by omega)]
    exact World.cell?_setCell_same _ _ _ (u := u1) (by rw [set_ne _ _ _ _ _ (by omega)]; exact h1)
  · rw [set_ne _ _ _ _ _ (by omega), set_ne _ _ _ _ _ (by omega), set_ne _ _ _ _ _ (by omega), set_ne _ _ _ _ _ (by omega), set_ne _ _ _ _ _ (by omega)]
    exact World.cell?_setCell_same _ _ _ (u := u2) (by rw [set_ne _ _ _ _ _ (by omega), set_ne _ _ _ _ _ (by omega)]; exact h2)
  · rw [set_ne _ _ _ _ _ (by omega), set_ne _ _ _ _ _ (by omega), set_ne _ _ _ _ _ (by omega), set_ne _ _ _ _ _ (by omega)]
    exact World.cell?_setCell_same _ _ _ (u := u3) (by rw [set_ne _ _ _ _ _ (by omega), set_ne _ _ _ _ _ (by omega), set_ne _ _ _ _ _ (by omega)]; exact h3)
  · rw [set_ne _ _ _ _ _ (by omega), set_ne _ _ _ _ _ (by omega), set_ne _ _ _ _ _ (by omega)]
    exact World.cell?_setCell_same _ _ _ (u := u4) (by rw [set_ne _ _ _ _ _ (by omega), set_ne _ _ _ _ _ (by omega), set_ne _ _ _ _ _ (by omega), set_ne _ _ _ _ _ (by omega)]; exact h4)
  · rw [set_ne _ _ _ _ _ (by omega), set_ne _ _ _ _ _ (by omega)]
    exact World.cell?_setCell_same _ _ _ (u := u5) (by rw [set_ne _ _ _ _ _ (by omega), set_ne _ _ _ _ _ (by omega), set_ne _ _ _ _ _ (by omega), set_ne _ _ _ _ _ (by omega), set_ne _ _ _ _ _ (by omega)]; exact h5)
  · rw [set_ne _ _ _ _ _ (by omega)]
    exact World.cell?_setCell_same _ _ _ (u := u6) (by rw [set_ne _ _ _ _ _ (by omega), set_ne _ _ _ _ _ (by omega), set_ne _ _ _ _ _ (by omega), set_ne _ _ _ _ _ (by omega), set_ne _ _ _ _ _ (by omega), set_ne _ _ _ _ _ (by omega)]; exact h6)
  · exact World.cell?_setCell_same _ _ _ (u := u7) (by rw [set_ne _ _ _ _ _ (by omega), set_ne _ _ _ _ _ (by omega), set_ne _ _ _ _ _ (by omega), set_ne _ _ _ _ _ (by omega), set_ne _ _ _ _ _ (by omega), set_ne _ _ _ _ _ (by omega), set_ne _ _ _ _ _ (by omega)]; exact h7)

theorem set_far (w : World) (b c i j : Nat) (v : Value) (h : b ≠ c) : (w.setCell ⟨b, i, none⟩ v).cell? ⟨c, j, none⟩ = w.cell? ⟨c, j, none⟩ :=
  World.cell?_setCell_other _ _ _ _ (fun e => h (by injection e))

theorem set8_far {w : World} {p q : Nat} {u0 u1 u2 u3 u4 u5 u6 u7 : Value} (v0 v1 v2 v3 v4 v5 v6 v7 : Value) (hpq : q ≠ p) (h : Box8 w p u0 u1 u2 u3 u4 u5 u6 u7) :
    Box8 ((((((((w.setCell ⟨q, 0, none⟩ v0).setCell ⟨q, 1, none⟩ v1).setCell ⟨q, 2, none⟩ v2).setCell ⟨q, 3, none⟩ v3).setCell ⟨q, 4, none⟩ v4).setCell ⟨q, 5, none⟩ v5).setCell ⟨q, 6, none⟩ v6).setCell ⟨q, 7, none⟩ v7) p u0 u1 u2 u3 u4 u5 u6 u7 := by
  obtain ⟨h0, h1, h2, h3, h4, h5, h6, h7⟩ := h
  refine ⟨?_, ?_, ?_, ?_, ?_, ?_, ?_, ?_⟩
  all_goals
    rw [set_far _ _ _ _ _ _ hpq, set_far _ _ _ _ _ _ hpq, set_far _ _ _ _ _ _ hpq, set_far _ _ _ _ _ _ hpq, set_far _ _ _ _ _ _ hpq, set_far _ _ _ _ _ _ hpq, set_far _ _ _ _ _ _ hpq, set_far _ _ _ _ _ _ hpq]
    assumption

set_option maxHeartbeats 2000000 in
theorem answer_some (pr : ByteArray) (no : Int) (st re vd sb ca : ByteArray) (f : Nat) (g0 g1 g5 g6 g7 : Value) (fst fre fvd : ByteArray) (w : World) (hfw : f < w.heap.size) (hG : Box8 w f g0 g1 (.string fst) (.string fre) (.string fvd) g5 g6 g7) :
    Calls Try.prog 7 #[.agg #[.string pr, .int .i64 no, .string st, .string re, .string vd, .string sb, .string ca, .pointer (some ⟨f, 0, none⟩)]] w
      fun e w' => ∃ g, e = .returned (.agg #[.string pr, .int .i64 no, .string st, .string (dash re), .string (dash vd), .string (dash sb), .string ca, .pointer (some ⟨g, 0, none⟩)]) ∧
        (w'.cell? ⟨g, 0, none⟩ = some (.string fst) ∧ w'.cell? ⟨g, 1, none⟩ = some (.string (dash fre)) ∧ w'.cell? ⟨g, 2, none⟩ = some (.string (dash fvd))) ∧ g < w'.heap.size ∧ Below w.heap.size w w' := by
  have HG := hide hG
  clear hG
  have hne1 : w.heap.size + 1 + 1 ≠ w.heap.size := by omega
  go_enter Try.func7, Try.ntmps7
  go_wp2
  go_region_held3 (fun w' => w'.cell? ⟨w.heap.size, 0, none⟩ = some (.string pr) ∧ w'.cell? ⟨w.heap.size, 1, none⟩ = some (.int .i64 no) ∧ w'.cell? ⟨w.heap.size, 2, none⟩ = some (.string st) ∧ w'.cell? ⟨w.heap.size, 3, none⟩ = some (.string re) ∧ w'.cell? ⟨w.heap.size, 4, none⟩ = some (.string vd) ∧ w'.cell? ⟨w.heap.size, 5, none⟩ = some (.string sb) ∧ w'.cell? ⟨w.heap.size, 6, none⟩ = some (.string ca) ∧ w'.cell? ⟨w.heap.size, 7, none⟩ = some (.pointer (some ⟨f, 0, none⟩))) (go_keep)
    (first
      | (go_at_call 12; refine (orDash_c _ _).mono ?_; rintro e w' ⟨rfl, rfl⟩)
      | (go_at_call 11; refine (result_c _ _ _ _ _ _ _ _ _).mono ?_; rintro e w' ⟨rfl, hb⟩; have hS := keep8 (p := w.heap.size) hb (by simp; omega) (by assumption); have HB : Hid (Below w.heap.size w w') := Below.trans (by repeat (first | (with_reducible exact Below.refl _ _) | with_reducible refine Below.drew ?_ | with_reducible refine Below.alloc ?_ (by first | (with_reducible exact Nat.le_refl _) | omega | (simp only [World.size_alloc, World.size_setCell, World.size_drew]; omega)) _)) (hb.mono (by first | (with_reducible exact Nat.le_refl _) | omega | (simp only [World.size_alloc, World.size_setCell, World.size_drew]; omega))); have hF := keep8 (p := f) HB.out hfw HG.out; obtain ⟨hc, hf⟩ := bcell hb; have hz := hb.size; simp at hz; have hne2 : w'.heap.size ≠ w.heap.size := (by omega); have hz1 : w.heap.size < w'.heap.size := (by omega); have hz2 : w.heap.size + 1 < w'.heap.size := (by omega); have hfz : f < w'.heap.size := (by omega); clear hb))
  · go_wp2_with fail
    refine (result_c _ _ _ _ _ _ _ _ _).mono ?_
    rintro e w2 ⟨rfl, hb2⟩
    obtain ⟨hc2, hf2⟩ := bcell hb2
    have hy := hb2.size
    simp at hy
    have hy1 : w.heap.size < w2.heap.size := by omega
    have hy2 : w.heap.size + 1 < w2.heap.size := by omega
    have hne3 : w'.heap.size ≠ w.heap.size + 1 := by omega
    have hR : Box8 w' (w.heap.size + 1) (.string ⟨#[]⟩) (.int .i64 0) (.string ⟨#[]⟩) (.string ⟨#[]⟩) (.string ⟨#[]⟩) (.string ⟨#[]⟩) (.string ⟨#[]⟩) (.pointer none) := by
      refine ⟨?_, ?_, ?_, ?_, ?_, ?_, ?_, ?_⟩
      all_goals (rw [hc _ _ (by simp)]; simp [go_sem])
    have hR2 := keep8 (p := w.heap.size + 1) hb2 (by simp; omega) (keep8 (W := w') (by first | exact (Below.refl _ _).alloc (Nat.le_refl _) _ | exact ((Below.refl _ _).alloc (Nat.le_refl _) _).drew) hz2 hR)
    clear hR
    have hy5 : w'.heap.size < w2.heap.size := by omega
    have HB2 := hide hb2
    clear hb2
    go_wp2_with fail
    refine bodyPost_ret (v := .agg #[.string pr, .int .i64 no, .string st, .string (dash re), .string (dash vd), .string (dash sb), .string ca, .pointer (some ⟨w2.heap.size, 0, none⟩)]) ?_ rfl ⟨w2.heap.size, rfl, ⟨?_, ?_, ?_⟩, ?_, ?_⟩
    · clear hc hc2; simp [results, Try.results7, go_sem, hR2, hy2, hne3]
    · simp [go_sem]
    · simp [go_sem]
    · simp [go_sem]
    · simp
    · have HB3 : Below w.heap.size w w2 := Below.trans (by repeat (first | (with_reducible exact HB.out) | with_reducible refine Below.drew ?_ | with_reducible refine Below.alloc ?_ (by first | (with_reducible exact Nat.le_refl _) | omega | (simp only [World.size_alloc, World.size_setCell, World.size_drew]; omega)) _ | with_reducible refine Below.setCell ?_ (by first | (with_reducible exact Nat.le_refl _) | omega | (simp only [World.size_alloc, World.size_setCell, World.size_drew]; omega)) _)) (HB2.out.mono (by first | (with_reducible exact Nat.le_refl _) | omega | (simp only [World.size_alloc, World.size_setCell, World.size_drew]; omega)))
      repeat (first | (with_reducible exact HB3) | with_reducible refine Below.drew ?_ | with_reducible refine Below.alloc ?_ (by first | (with_reducible exact Nat.le_refl _) | omega | (simp only [World.size_alloc, World.size_setCell, World.size_drew]; omega)) _ | with_reducible refine Below.setCell ?_ (by first | (with_reducible exact Nat.le_refl _) | omega | (simp only [World.size_alloc, World.size_setCell, World.size_drew]; omega)) _)

  · go_wp2_with fail
    refine (result_c _ _ _ _ _ _ _ _ _).mono ?_
    rintro e w2 ⟨rfl, hb2⟩
    obtain ⟨hc2, hf2⟩ := bcell hb2
    have hy := hb2.size
    simp at hy
    have hy1 : w.heap.size < w2.heap.size := by omega
    have hy2 : w.heap.size + 1 < w2.heap.size := by omega
    have hne3 : w'.heap.size ≠ w.heap.size + 1 := by omega
    have hR : Box8 w' (w.heap.size + 1) (.string ⟨#[]⟩) (.int .i64 0) (.string ⟨#[]⟩) (.string ⟨#[]⟩) (.string ⟨#[]⟩) (.string ⟨#[]⟩) (.string ⟨#[]⟩) (.pointer none) := by
      refine ⟨?_, ?_, ?_, ?_, ?_, ?_, ?_, ?_⟩
      all_goals (rw [hc _ _ (by simp)]; simp [go_sem])
    have hR2 := keep8 (p := w.heap.size + 1) hb2 (by simp; omega) (keep8 (W := w') (by first | exact (Below.refl _ _).alloc (Nat.le_refl _) _ | exact ((Below.refl _ _).alloc (Nat.le_refl _) _).drew) hz2 hR)
    clear hR
    have hy5 : w'.heap.size < w2.heap.size := by omega
    have HB2 := hide hb2
    clear hb2
    go_wp2_with fail
    refine bodyPost_ret (v := .agg #[.string pr, .int .i64 no, .string st, .string (dash re), .string (dash vd), .string (dash sb), .string ca, .pointer (some ⟨w2.heap.size, 0, none⟩)]) ?_ rfl ⟨w2.heap.size, rfl, ⟨?_, ?_, ?_⟩, ?_, ?_⟩
    · clear hc hc2; simp [results, Try.results7, go_sem, hR2, hy2, hne3]
    · simp [go_sem]
    · simp [go_sem]
    · simp [go_sem]
    · simp
    · have HB3 : Below w.heap.size w w2 := Below.trans (by repeat (first | (with_reducible exact HB.out) | with_reducible refine Below.drew ?_ | with_reducible refine Below.alloc ?_ (by first | (with_reducible exact Nat.le_refl _) | omega | (simp only [World.size_alloc, World.size_setCell, World.size_drew]; omega)) _ | with_reducible refine Below.setCell ?_ (by first | (with_reducible exact Nat.le_refl _) | omega | (simp only [World.size_alloc, World.size_setCell, World.size_drew]; omega)) _)) (HB2.out.mono (by first | (with_reducible exact Nat.le_refl _) | omega | (simp only [World.size_alloc, World.size_setCell, World.size_drew]; omega)))
      repeat (first | (with_reducible exact HB3) | with_reducible refine Below.drew ?_ | with_reducible refine Below.alloc ?_ (by first | (with_reducible exact Nat.le_refl _) | omega | (simp only [World.size_alloc, World.size_setCell, World.size_drew]; omega)) _ | with_reducible refine Below.setCell ?_ (by first | (with_reducible exact Nat.le_refl _) | omega | (simp only [World.size_alloc, World.size_setCell, World.size_drew]; omega)) _)

  · go_wp2_with fail
    refine (result_c _ _ _ _ _ _ _ _ _).mono ?_
    rintro e w2 ⟨rfl, hb2⟩
    obtain ⟨hc2, hf2⟩ := bcell hb2
    have hy := hb2.size
    simp at hy
    have hy1 : w.heap.size < w2.heap.size := by omega
    have hy2 : w.heap.size + 1 < w2.heap.size := by omega
    have hQ : Box8 w' (w.heap.size + 1 + 1) (.string ⟨#[]⟩) (.int .i64 0) (.string ⟨#[]⟩) (.string ⟨#[]⟩) (.string ⟨#[]⟩) (.string ⟨#[]⟩) (.string ⟨#[]⟩) (.pointer none) := by
      refine ⟨?_, ?_, ?_, ?_, ?_, ?_, ?_, ?_⟩
      all_goals (rw [hc _ _ (by simp)]; simp [go_sem])
    have hQ2 := keep8 (p := w.heap.size + 1 + 1) hb2 (by simp; omega) (set8_box _ _ _ _ _ _ _ _ hQ)
    have hR : Box8 w' (w.heap.size + 1) (.string ⟨#[]⟩) (.int .i64 0) (.string ⟨#[]⟩) (.string ⟨#[]⟩) (.string ⟨#[]⟩) (.string ⟨#[]⟩) (.string ⟨#[]⟩) (.pointer none) := by
      refine ⟨?_, ?_, ?_, ?_, ?_, ?_, ?_, ?_⟩
      all_goals (rw [hc _ _ (by simp)]; simp [go_sem])
    have hR2 := keep8 (p := w.heap.size + 1) hb2 (by simp; omega) (set8_far _ _ _ _ _ _ _ _ (by omega) hR)
    clear hc2 hR hQ
    have hz3 : w.heap.size + 1 + 1 < w'.heap.size := by omega
    have hy5 : w.heap.size + 1 + 1 < w2.heap.size := by omega
    have HB2 := hide hb2
    clear hb2
    go_wp2_with fail
    refine bodyPost_ret (v := .agg #[.string pr, .int .i64 no, .string st, .string (dash re), .string (dash vd), .string (dash sb), .string ca, .pointer (some ⟨w2.heap.size, 0, none⟩)]) ?_ rfl ⟨w2.heap.size, rfl, ⟨?_, ?_, ?_⟩, ?_, ?_⟩
    · simp [results, Try.results7, go_sem, hR2, hy2]
    · simp [go_sem]
    · simp [go_sem]
    · simp [go_sem]
    · simp
    · have HB3 : Below w.heap.size w w2 := Below.trans (by repeat (first | (with_reducible exact HB.out) | with_reducible refine Below.drew ?_ | with_reducible refine Below.alloc ?_ (by first | (with_reducible exact Nat.le_refl _) | omega | (simp only [World.size_alloc, World.size_setCell, World.size_drew]; omega)) _ | with_reducible refine Below.setCell ?_ (by first | (with_reducible exact Nat.le_refl _) | omega | (simp only [World.size_alloc, World.size_setCell, World.size_drew]; omega)) _)) (HB2.out.mono (by first | (with_reducible exact Nat.le_refl _) | omega | (simp only [World.size_alloc, World.size_setCell, World.size_drew]; omega)))
      repeat (first | (with_reducible exact HB3) | with_reducible refine Below.drew ?_ | with_reducible refine Below.alloc ?_ (by first | (with_reducible exact Nat.le_refl _) | omega | (simp only [World.size_alloc, World.size_setCell, World.size_drew]; omega)) _ | with_reducible refine Below.setCell ?_ (by first | (with_reducible exact Nat.le_refl _) | omega | (simp only [World.size_alloc, World.size_setCell, World.size_drew]; omega)) _)

end Go.Proofs.Qxb6000966a
