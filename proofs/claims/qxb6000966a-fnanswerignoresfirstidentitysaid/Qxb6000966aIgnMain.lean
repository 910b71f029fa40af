import Derived.Test.Qxb6000966aZzIgn
/-! FnAnswerIgnoresFirstIdentity: the way on. -/
namespace Go.Proofs.Qxb6000966a
open Go.RowKit
set_option linter.unusedVariables false
set_option linter.unusedSimpArgs false

/-- The world behind the five blocks that the law lays. -/
def five (w : World) (a0 : ByteArray) (a1 : Int) (a2 a3 a4 a5 a6 a7 : ByteArray) (a8 : Int) (a9 a10 a11 : ByteArray) : World :=
  (((((w.alloc (.cells #[.string a0, .int .i64 a1, .string a2, .string a3, .string ⟨#[]⟩, .string ⟨#[]⟩, .string ⟨#[]⟩, .pointer (some ⟨w.heap.size + 1, 0, none⟩)] 27)).alloc
    (.cells #[.string ⟨#[]⟩, .int .i64 0, .string a4, .string a5, .string a6, .string ⟨#[]⟩, .string ⟨#[]⟩, .pointer none] 27)).alloc
    (.cells #[.string a0, .int .i64 a1, .string a2, .string a3, .string ⟨#[]⟩, .string ⟨#[]⟩, .string ⟨#[]⟩, .pointer (some ⟨w.heap.size + 1 + 1 + 1 + 1, 0, none⟩)] 27)).alloc
    (.cells #[.string ⟨#[]⟩, .int .i64 0, .string a11, .string ⟨#[]⟩, .string ⟨#[]⟩, .string ⟨#[]⟩, .string ⟨#[]⟩, .pointer none] 27)).alloc
    (.cells #[.string a7, .int .i64 a8, .string a4, .string a5, .string a6, .string a9, .string a10, .pointer (some ⟨w.heap.size + 1 + 1 + 1, 0, none⟩)] 27))

section
variable (w : World) (a0 : ByteArray) (a1 : Int) (a2 a3 a4 a5 a6 a7 : ByteArray) (a8 : Int) (a9 a10 a11 : ByteArray)
theorem five_size : (five w a0 a1 a2 a3 a4 a5 a6 a7 a8 a9 a10 a11).heap.size = w.heap.size + 5 := by simp [five]
theorem five_below : Below w.heap.size w (five w a0 a1 a2 a3 a4 a5 a6 a7 a8 a9 a10 a11) :=
  (((((Below.refl _ _).alloc (Nat.le_refl _) _).alloc (by simp) _).alloc (by simp; omega) _).alloc (by simp; omega) _).alloc (by simp; omega) _
theorem five_F1 : Box8 (five w a0 a1 a2 a3 a4 a5 a6 a7 a8 a9 a10 a11) (w.heap.size + 1) (.string ⟨#[]⟩) (.int .i64 0) (.string a4) (.string a5) (.string a6) (.string ⟨#[]⟩) (.string ⟨#[]⟩) (.pointer none) := by
  simp [Box8, five, go_sem]
theorem five_D2 : Box8 (five w a0 a1 a2 a3 a4 a5 a6 a7 a8 a9 a10 a11) (w.heap.size + 1 + 1) (.string a0) (.int .i64 a1) (.string a2) (.string a3) (.string ⟨#[]⟩) (.string ⟨#[]⟩) (.string ⟨#[]⟩) (.pointer (some ⟨w.heap.size + 1 + 1 + 1 + 1, 0, none⟩)) := by
  simp [Box8, five, go_sem]
theorem five_F2 : Box8 (five w a0 a1 a2 a3 a4 a5 a6 a7 a8 a9 a10 a11) (w.heap.size + 1 + 1 + 1 + 1) (.string a7) (.int .i64 a8) (.string a4) (.string a5) (.string a6) (.string a9) (.string a10) (.pointer (some ⟨w.heap.size + 1 + 1 + 1, 0, none⟩)) := by
  simp [Box8, five, go_sem]
end

theorem box8_below {W w1 : World} {p : Nat} {v0 v1 v2 v3 v4 v5 v6 v7 : Value} (hb : Below W.heap.size W w1) (hp : p < W.heap.size) (h : Box8 W p v0 v1 v2 v3 v4 v5 v6 v7) : Box8 w1 p v0 v1 v2 v3 v4 v5 v6 v7 := keep8 hb hp h
theorem box8_alloc {W : World} {p : Nat} {v0 v1 v2 v3 v4 v5 v6 v7 : Value} (o : Obj) (hp : p < W.heap.size) (h : Box8 W p v0 v1 v2 v3 v4 v5 v6 v7) : Box8 (W.alloc o).drew p v0 v1 v2 v3 v4 v5 v6 v7 :=
  keep8 (((Below.refl _ _).alloc (Nat.le_refl _) o).drew) hp h
theorem res3_below {W w1 : World} {g : Nat} {a b c : ByteArray} (hb : Below W.heap.size W w1) (hp : g < W.heap.size) (h : Res3 W g a b c) : Res3 w1 g a b c :=
  ⟨(hb.cell hp).trans h.1, (hb.cell hp).trans h.2.1, (hb.cell hp).trans h.2.2⟩

theorem below_all {w w1 w3 w4 : World} {o : Obj} (h1 : Below w.heap.size w w1) (h3 : Below (w1.alloc o).drew.heap.size (w1.alloc o).drew w3) (h4 : Below w3.heap.size w3 w4) : Below w.heap.size w w4 := by
  have e : Below w.heap.size w (w1.alloc o).drew := (h1.alloc h1.size o).drew
  have s1 : w.heap.size ≤ (w1.alloc o).drew.heap.size := e.size
  exact (e.trans (h3.mono s1)).trans (h4.mono (Nat.le_trans s1 h3.size))

set_option maxRecDepth 100000 in
set_option maxHeartbeats 2000000 in
theorem ign_main (a0 : ByteArray) (a1 : Int) (a2 : ByteArray) (a3 : ByteArray) (a4 : ByteArray) (a5 : ByteArray) (a6 : ByteArray) (a7 : ByteArray) (a8 : Int) (a9 : ByteArray) (a10 : ByteArray) (a11 : ByteArray) (w : World) (w0 : a0.size ≤ maxLen) (w2 : a2.size ≤ maxLen) (w3 : a3.size ≤ maxLen) (w4 : a4.size ≤ maxLen) (w5 : a5.size ≤ maxLen) (w6 : a6.size ≤ maxLen) (w7 : a7.size ≤ maxLen) (w9 : a9.size ≤ maxLen) (w10 : a10.size ≤ maxLen) (w11 : a11.size ≤ maxLen) (h0 : a0.size ≤ 65536) (h2 : a2.size ≤ 65536) (h3 : a3.size ≤ 65536) (h4 : a4.size ≤ 65536) (h5 : a5.size ≤ 65536) (h6 : a6.size ≤ 65536) (h7 : a7.size ≤ 65536) (h9 : a9.size ≤ 65536) (h10 : a10.size ≤ 65536) (h11 : a11.size ≤ 65536) :
    Calls Try.prog 4 #[.string a0, .int .i64 a1, .string a2, .string a3, .string a4, .string a5, .string a6, .string a7, .int .i64 a8, .string a9, .string a10, .string a11] w fun e w' => e = .returned (.bool true) ∧ Below w.heap.size w w' := by
  have HZ := hide (fun w => zz9_c a0 a1 a2 a3 a4 a5 a6 a7 a8 a9 a10 a11 w w0 w2 w3 w4 w5 w6 w7 w9 w10 w11)
  clear w0 w2 w3 w4 w5 w6 w7 w9 w10 w11
  go_enter Try.func4, Try.ntmps4
  go_wp2_with fail
  refine (HZ.out _).mono ?_
  rintro e w' ⟨⟨r, rfl⟩, rfl⟩
  cases r with
  | false =>
    go_wp2_with fail
    go_ret
    exact ⟨rfl, Below.refl _ _⟩
  | true =>
    clear HZ
    go_wp2_with fail
    refine (answer_some a0 a1 a2 a3 ⟨#[]⟩ ⟨#[]⟩ ⟨#[]⟩ (w'.heap.size + 1) _ _ _ _ _ a4 a5 a6 _ (by rw [five_size]; omega) (five_F1 w' a0 a1 a2 a3 a4 a5 a6 a7 a8 a9 a10 a11)).mono ?_
    rintro e w1 ⟨g1, rfl, hr1, hg1, hB1⟩
    have hz := hB1.size
    rw [five_size] at hz
    have HD2 := hide (box8_below hB1 (by rw [five_size]; omega) (five_D2 w' a0 a1 a2 a3 a4 a5 a6 a7 a8 a9 a10 a11))
    have HF2 := hide (box8_below hB1 (by rw [five_size]; omega) (five_F2 w' a0 a1 a2 a3 a4 a5 a6 a7 a8 a9 a10 a11))
    have HB := hide ((five_below w' a0 a1 a2 a3 a4 a5 a6 a7 a8 a9 a10 a11).trans (hB1.mono (by rw [five_size]; omega)))
    have HR1 : Hid (Res3 w1 g1 a4 (dash a5) (dash a6)) := hr1
    clear hr1 hB1
    go_wp2_with fail
    obtain ⟨c0, c1, c2, c3, c4, c5, c6, c7⟩ := HD2.out
    have hz2 : w'.heap.size + 1 + 1 < w1.heap.size := by omega
    have hne : w1.heap.size ≠ w'.heap.size + 1 + 1 := by omega
    have HF3 := hide (fun o => box8_alloc o (by omega) HF2.out)
    go_region_held3 (fun wx => (wx.cell? ⟨w1.heap.size, 0, none⟩ = some (.string a0) ∧ wx.cell? ⟨w1.heap.size, 1, none⟩ = some (.int .i64 a1) ∧ wx.cell? ⟨w1.heap.size, 2, none⟩ = some (.string a2) ∧ wx.cell? ⟨w1.heap.size, 3, none⟩ = some (.string (dash a3)) ∧ wx.cell? ⟨w1.heap.size, 4, none⟩ = some (.string (dash ⟨#[]⟩)) ∧ wx.cell? ⟨w1.heap.size, 5, none⟩ = some (.string (dash ⟨#[]⟩)) ∧ wx.cell? ⟨w1.heap.size, 6, none⟩ = some (.string ⟨#[]⟩) ∧ wx.cell? ⟨w1.heap.size, 7, none⟩ = some (.pointer (some ⟨g1, 0, none⟩))) ∧ (wx.cell? ⟨w'.heap.size + 1 + 1, 0, none⟩ = some (.string a0) ∧ wx.cell? ⟨w'.heap.size + 1 + 1, 1, none⟩ = some (.int .i64 a1) ∧ wx.cell? ⟨w'.heap.size + 1 + 1, 2, none⟩ = some (.string a2) ∧ wx.cell? ⟨w'.heap.size + 1 + 1, 3, none⟩ = some (.string a3) ∧ wx.cell? ⟨w'.heap.size + 1 + 1, 4, none⟩ = some (.string ⟨#[]⟩) ∧ wx.cell? ⟨w'.heap.size + 1 + 1, 5, none⟩ = some (.string ⟨#[]⟩) ∧ wx.cell? ⟨w'.heap.size + 1 + 1, 6, none⟩ = some (.string ⟨#[]⟩) ∧ wx.cell? ⟨w'.heap.size + 1 + 1, 7, none⟩ = some (.pointer (some ⟨w'.heap.size + 1 + 1 + 1 + 1, 0, none⟩)))) (go_keep)
      (first
        | (go_at_call 7; refine (answer_some a0 a1 a2 a3 ⟨#[]⟩ ⟨#[]⟩ ⟨#[]⟩ (w'.heap.size + 1 + 1 + 1 + 1) _ _ _ _ _ a4 a5 a6 _ (by simp; omega) (HF3.out _)).mono ?_; rintro e w3 ⟨g2, rfl, hr2, hg2, hB3⟩; have hS := keep8 (p := w1.heap.size) hB3 (by simp) (And.left (by assumption)); have hT := keep8 (p := w'.heap.size + 1 + 1) hB3 (by simp; omega) (And.right (by assumption)); have HR2 : Hid (Res3 w3 g2 a4 (dash a5) (dash a6)) := hr2; clear hr2)
        | (go_at_call 10; refine (equal_c a0 a1 a2 (dash a3) (dash ⟨#[]⟩) (dash ⟨#[]⟩) ⟨#[]⟩ _ _ a4 (dash a5) (dash a6) _ ?_ ?_ ?_ ?_).mono ?_; (have := hB3.size; simp at this; omega); exact hg2; exact res3_below hB3 (by simp; omega) (res3_below ((Below.refl _ _).alloc (Nat.le_refl _) _).drew hg1 HR1.out); exact HR2.out; rintro e w4 ⟨rfl, hB4⟩; have hS4 := keep8 (p := w1.heap.size) hB4 (by have := hB3.size; simp at this; omega) hS; have hT4 := keep8 (p := w'.heap.size + 1 + 1) hB4 (by have := hB3.size; simp at this; omega) hT))
    go_wp2
    go_ret
    exact ⟨rfl, below_all HB.out hB3 hB4⟩

end Go.Proofs.Qxb6000966a
