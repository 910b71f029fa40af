import Derived.Test.Qxb6001059aRows
import Derived.Test.Qxb6001059aPlain
import Derived.WalkKit
import Derived.WalkLawsBesides
/-! zzStep: its contract. -/
namespace Go.Proofs.Qxb6001059a
open Go.RowKit
set_option linter.unusedSimpArgs false
set_option linter.unusedVariables false

theorem hide {p : Prop} (h : p) : Hid p := h
theorem ret_int {k : IntKind} {a b : Int} (h : a = b) : Ending.returned (.int k a) = .returned (.int k b) := by rw [h]
theorem ret_bool {a b : Bool} (h : a = b) : Ending.returned (.bool a) = .returned (.bool b) := by rw [h]

/-- The kinds of byte that the automaton tells apart. -/
theorem byte_kinds (c : Int) : c = 43 ∨ c = 45 ∨ c = 46 ∨ c = 48 ∨ c = 69 ∨ c = 101 ∨ (49 ≤ c ∧ c ≤ 57) ∨ (c < 43 ∨ c = 44 ∨ c = 47 ∨ (57 < c ∧ c < 69) ∨ (69 < c ∧ c < 101) ∨ 101 < c) := by omega

theorem isDig_yes {c : Int} (h : 49 ≤ c ∧ c ≤ 57) : isDig c = true := by unfold isDig; simp; omega

set_option maxHeartbeats 1000000 in
theorem step0_c (c : Int) (w : World) :
    Calls Try.prog 16 #[.int .i64 0, .int .u8 c] w fun e w' => e = .returned (.int .i64 (step 0 c)) ∧ w' = w := by
  rcases byte_kinds c with rfl | rfl | rfl | rfl | rfl | rfl | h | h
  iterate 6
    · go_enter Try.func16, Try.ntmps16
      go_wp2
      go_ret
      exact ⟨ret_int (by decide), rfl⟩
  · have h2 : (c == 45) = false := by simp; omega
    have h3 : (c == 48) = false := by simp; omega
    have h4 : (c == 46) = false := by simp; omega
    have h5 : (c == 101) = false := by simp; omega
    have h6 : (c == 69) = false := by simp; omega
    have h7 : (c == 43) = false := by simp; omega
    have hs : step 0 c = 3 := by
      have h1 := isDig_yes h
      simp [step, h1, h2, h3, h4, h5, h6, h7]
    rw [hs]
    clear hs
    obtain ⟨g1, g2⟩ := h
    go_enter Try.func16, Try.ntmps16
    go_wp2
    go_ret
    exact ⟨rfl, rfl⟩
  · have h2 : (c == 45) = false := by simp; omega
    have h3 : (c == 48) = false := by simp; omega
    have h4 : (c == 46) = false := by simp; omega
    have h5 : (c == 101) = false := by simp; omega
    have h6 : (c == 69) = false := by simp; omega
    have h7 : (c == 43) = false := by simp; omega
    have hs : step 0 c = -1 := by
      have h1 : isDig c = false := by unfold isDig; simp; omega
      simp [step, h1, h2, h3, h4, h5, h6, h7]
    rw [hs]
    clear hs
    have hlh : c < 48 ∨ (48 ≤ c ∧ 57 < c) := by omega
    clear h
    rcases hlh with h | ⟨h, h'⟩
    all_goals
      go_enter Try.func16, Try.ntmps16
      go_wp2
      go_ret
      exact ⟨rfl, rfl⟩

set_option maxHeartbeats 1000000 in
theorem step1_c (c : Int) (w : World) :
    Calls Try.prog 16 #[.int .i64 1, .int .u8 c] w fun e w' => e = .returned (.int .i64 (step 1 c)) ∧ w' = w := by
  rcases byte_kinds c with rfl | rfl | rfl | rfl | rfl | rfl | h | h
  iterate 6
    · go_enter Try.func16, Try.ntmps16
      go_wp2
      go_ret
      exact ⟨ret_int (by decide), rfl⟩
  · have h2 : (c == 45) = false := by simp; omega
    have h3 : (c == 48) = false := by simp; omega
    have h4 : (c == 46) = false := by simp; omega
    have h5 : (c == 101) = false := by simp; omega
    have h6 : (c == 69) = false := by simp; omega
    have h7 : (c == 43) = false := by simp; omega
    have hs : step 1 c = 3 := by
      have h1 := isDig_yes h
      simp [step, h1, h2, h3, h4, h5, h6, h7]
    rw [hs]
    clear hs
    obtain ⟨g1, g2⟩ := h
    go_enter Try.func16, Try.ntmps16
    go_wp2
    go_ret
    exact ⟨rfl, rfl⟩
  · have h2 : (c == 45) = false := by simp; omega
    have h3 : (c == 48) = false := by simp; omega
    have h4 : (c == 46) = false := by simp; omega
    have h5 : (c == 101) = false := by simp; omega
    have h6 : (c == 69) = false := by simp; omega
    have h7 : (c == 43) = false := by simp; omega
    have hs : step 1 c = -1 := by
      have h1 : isDig c = false := by unfold isDig; simp; omega
      simp [step, h1, h2, h3, h4, h5, h6, h7]
    rw [hs]
    clear hs
    have hlh : c < 48 ∨ (48 ≤ c ∧ 57 < c) := by omega
    clear h
    rcases hlh with h | ⟨h, h'⟩
    all_goals
      go_enter Try.func16, Try.ntmps16
      go_wp2
      go_ret
      exact ⟨rfl, rfl⟩

set_option maxHeartbeats 1000000 in
theorem step2_c (c : Int) (w : World) :
    Calls Try.prog 16 #[.int .i64 2, .int .u8 c] w fun e w' => e = .returned (.int .i64 (step 2 c)) ∧ w' = w := by
  rcases byte_kinds c with rfl | rfl | rfl | rfl | rfl | rfl | h | h
  iterate 6
    · go_enter Try.func16, Try.ntmps16
      go_wp2
      go_ret
      exact ⟨ret_int (by decide), rfl⟩
  · have h2 : (c == 45) = false := by simp; omega
    have h3 : (c == 48) = false := by simp; omega
    have h4 : (c == 46) = false := by simp; omega
    have h5 : (c == 101) = false := by simp; omega
    have h6 : (c == 69) = false := by simp; omega
    have h7 : (c == 43) = false := by simp; omega
    have hs : step 2 c = -1 := by
      have h1 := isDig_yes h
      simp [step, h1, h2, h3, h4, h5, h6, h7]
    rw [hs]
    clear hs
    obtain ⟨g1, g2⟩ := h
    go_enter Try.func16, Try.ntmps16
    go_wp2
    go_ret
    exact ⟨rfl, rfl⟩
  · have h2 : (c == 45) = false := by simp; omega
    have h3 : (c == 48) = false := by simp; omega
    have h4 : (c == 46) = false := by simp; omega
    have h5 : (c == 101) = false := by simp; omega
    have h6 : (c == 69) = false := by simp; omega
    have h7 : (c == 43) = false := by simp; omega
    have hs : step 2 c = -1 := by
      have h1 : isDig c = false := by unfold isDig; simp; omega
      simp [step, h1, h2, h3, h4, h5, h6, h7]
    rw [hs]
    clear hs
    have hlh : c < 48 ∨ (48 ≤ c ∧ 57 < c) := by omega
    clear h
    rcases hlh with h | ⟨h, h'⟩
    all_goals
      go_enter Try.func16, Try.ntmps16
      go_wp2
      go_ret
      exact ⟨rfl, rfl⟩

set_option maxHeartbeats 1000000 in
theorem step3_c (c : Int) (w : World) :
    Calls Try.prog 16 #[.int .i64 3, .int .u8 c] w fun e w' => e = .returned (.int .i64 (step 3 c)) ∧ w' = w := by
  rcases byte_kinds c with rfl | rfl | rfl | rfl | rfl | rfl | h | h
  iterate 6
    · go_enter Try.func16, Try.ntmps16
      go_wp2
      go_ret
      exact ⟨ret_int (by decide), rfl⟩
  · have h2 : (c == 45) = false := by simp; omega
    have h3 : (c == 48) = false := by simp; omega
    have h4 : (c == 46) = false := by simp; omega
    have h5 : (c == 101) = false := by simp; omega
    have h6 : (c == 69) = false := by simp; omega
    have h7 : (c == 43) = false := by simp; omega
    have hs : step 3 c = 3 := by
      have h1 := isDig_yes h
      simp [step, h1, h2, h3, h4, h5, h6, h7]
    rw [hs]
    clear hs
    obtain ⟨g1, g2⟩ := h
    go_enter Try.func16, Try.ntmps16
    go_wp2
    go_ret
    exact ⟨rfl, rfl⟩
  · have h2 : (c == 45) = false := by simp; omega
    have h3 : (c == 48) = false := by simp; omega
    have h4 : (c == 46) = false := by simp; omega
    have h5 : (c == 101) = false := by simp; omega
    have h6 : (c == 69) = false := by simp; omega
    have h7 : (c == 43) = false := by simp; omega
    have hs : step 3 c = -1 := by
      have h1 : isDig c = false := by unfold isDig; simp; omega
      simp [step, h1, h2, h3, h4, h5, h6, h7]
    rw [hs]
    clear hs
    have hlh : c < 48 ∨ (48 ≤ c ∧ 57 < c) := by omega
    clear h
    rcases hlh with h | ⟨h, h'⟩
    all_goals
      go_enter Try.func16, Try.ntmps16
      go_wp2
      go_ret
      exact ⟨rfl, rfl⟩

set_option maxHeartbeats 1000000 in
theorem step4_c (c : Int) (w : World) :
    Calls Try.prog 16 #[.int .i64 4, .int .u8 c] w fun e w' => e = .returned (.int .i64 (step 4 c)) ∧ w' = w := by
  rcases byte_kinds c with rfl | rfl | rfl | rfl | rfl | rfl | h | h
  iterate 6
    · go_enter Try.func16, Try.ntmps16
      go_wp2
      go_ret
      exact ⟨ret_int (by decide), rfl⟩
  · have h2 : (c == 45) = false := by simp; omega
    have h3 : (c == 48) = false := by simp; omega
    have h4 : (c == 46) = false := by simp; omega
    have h5 : (c == 101) = false := by simp; omega
    have h6 : (c == 69) = false := by simp; omega
    have h7 : (c == 43) = false := by simp; omega
    have hs : step 4 c = 5 := by
      have h1 := isDig_yes h
      simp [step, h1, h2, h3, h4, h5, h6, h7]
    rw [hs]
    clear hs
    obtain ⟨g1, g2⟩ := h
    go_enter Try.func16, Try.ntmps16
    go_wp2
    go_ret
    exact ⟨rfl, rfl⟩
  · have h2 : (c == 45) = false := by simp; omega
    have h3 : (c == 48) = false := by simp; omega
    have h4 : (c == 46) = false := by simp; omega
    have h5 : (c == 101) = false := by simp; omega
    have h6 : (c == 69) = false := by simp; omega
    have h7 : (c == 43) = false := by simp; omega
    have hs : step 4 c = -1 := by
      have h1 : isDig c = false := by unfold isDig; simp; omega
      simp [step, h1, h2, h3, h4, h5, h6, h7]
    rw [hs]
    clear hs
    have hlh : c < 48 ∨ (48 ≤ c ∧ 57 < c) := by omega
    clear h
    rcases hlh with h | ⟨h, h'⟩
    all_goals
      go_enter Try.func16, Try.ntmps16
      go_wp2
      go_ret
      exact ⟨rfl, rfl⟩

set_option maxHeartbeats 1000000 in
theorem step5_c (c : Int) (w : World) :
    Calls Try.prog 16 #[.int .i64 5, .int .u8 c] w fun e w' => e = .returned (.int .i64 (step 5 c)) ∧ w' = w := by
  rcases byte_kinds c with rfl | rfl | rfl | rfl | rfl | rfl | h | h
  iterate 6
    · go_enter Try.func16, Try.ntmps16
      go_wp2
      go_ret
      exact ⟨ret_int (by decide), rfl⟩
  · have h2 : (c == 45) = false := by simp; omega
    have h3 : (c == 48) = false := by simp; omega
    have h4 : (c == 46) = false := by simp; omega
    have h5 : (c == 101) = false := by simp; omega
    have h6 : (c == 69) = false := by simp; omega
    have h7 : (c == 43) = false := by simp; omega
    have hs : step 5 c = 5 := by
      have h1 := isDig_yes h
      simp [step, h1, h2, h3, h4, h5, h6, h7]
    rw [hs]
    clear hs
    obtain ⟨g1, g2⟩ := h
    go_enter Try.func16, Try.ntmps16
    go_wp2
    go_ret
    exact ⟨rfl, rfl⟩
  · have h2 : (c == 45) = false := by simp; omega
    have h3 : (c == 48) = false := by simp; omega
    have h4 : (c == 46) = false := by simp; omega
    have h5 : (c == 101) = false := by simp; omega
    have h6 : (c == 69) = false := by simp; omega
    have h7 : (c == 43) = false := by simp; omega
    have hs : step 5 c = -1 := by
      have h1 : isDig c = false := by unfold isDig; simp; omega
      simp [step, h1, h2, h3, h4, h5, h6, h7]
    rw [hs]
    clear hs
    have hlh : c < 48 ∨ (48 ≤ c ∧ 57 < c) := by omega
    clear h
    rcases hlh with h | ⟨h, h'⟩
    all_goals
      go_enter Try.func16, Try.ntmps16
      go_wp2
      go_ret
      exact ⟨rfl, rfl⟩

set_option maxHeartbeats 1000000 in
theorem step6_c (c : Int) (w : World) :
    Calls Try.prog 16 #[.int .i64 6, .int .u8 c] w fun e w' => e = .returned (.int .i64 (step 6 c)) ∧ w' = w := by
  rcases byte_kinds c with rfl | rfl | rfl | rfl | rfl | rfl | h | h
  iterate 6
    · go_enter Try.func16, Try.ntmps16
      go_wp2
      go_ret
      exact ⟨ret_int (by decide), rfl⟩
  · have h2 : (c == 45) = false := by simp; omega
    have h3 : (c == 48) = false := by simp; omega
    have h4 : (c == 46) = false := by simp; omega
    have h5 : (c == 101) = false := by simp; omega
    have h6 : (c == 69) = false := by simp; omega
    have h7 : (c == 43) = false := by simp; omega
    have hs : step 6 c = 8 := by
      have h1 := isDig_yes h
      simp [step, h1, h2, h3, h4, h5, h6, h7]
    rw [hs]
    clear hs
    obtain ⟨g1, g2⟩ := h
    go_enter Try.func16, Try.ntmps16
    go_wp2
    go_ret
    exact ⟨rfl, rfl⟩
  · have h2 : (c == 45) = false := by simp; omega
    have h3 : (c == 48) = false := by simp; omega
    have h4 : (c == 46) = false := by simp; omega
    have h5 : (c == 101) = false := by simp; omega
    have h6 : (c == 69) = false := by simp; omega
    have h7 : (c == 43) = false := by simp; omega
    have hs : step 6 c = -1 := by
      have h1 : isDig c = false := by unfold isDig; simp; omega
      simp [step, h1, h2, h3, h4, h5, h6, h7]
    rw [hs]
    clear hs
    have hlh : c < 48 ∨ (48 ≤ c ∧ 57 < c) := by omega
    clear h
    rcases hlh with h | ⟨h, h'⟩
    all_goals
      go_enter Try.func16, Try.ntmps16
      go_wp2
      go_ret
      exact ⟨rfl, rfl⟩

set_option maxHeartbeats 1000000 in
theorem step7_c (c : Int) (w : World) :
    Calls Try.prog 16 #[.int .i64 7, .int .u8 c] w fun e w' => e = .returned (.int .i64 (step 7 c)) ∧ w' = w := by
  rcases byte_kinds c with rfl | rfl | rfl | rfl | rfl | rfl | h | h
  iterate 6
    · go_enter Try.func16, Try.ntmps16
      go_wp2
      go_ret
      exact ⟨ret_int (by decide), rfl⟩
  · have h2 : (c == 45) = false := by simp; omega
    have h3 : (c == 48) = false := by simp; omega
    have h4 : (c == 46) = false := by simp; omega
    have h5 : (c == 101) = false := by simp; omega
    have h6 : (c == 69) = false := by simp; omega
    have h7 : (c == 43) = false := by simp; omega
    have hs : step 7 c = 8 := by
      have h1 := isDig_yes h
      simp [step, h1, h2, h3, h4, h5, h6, h7]
    rw [hs]
    clear hs
    obtain ⟨g1, g2⟩ := h
    go_enter Try.func16, Try.ntmps16
    go_wp2
    go_ret
    exact ⟨rfl, rfl⟩
  · have h2 : (c == 45) = false := by simp; omega
    have h3 : (c == 48) = false := by simp; omega
    have h4 : (c == 46) = false := by simp; omega
    have h5 : (c == 101) = false := by simp; omega
    have h6 : (c == 69) = false := by simp; omega
    have h7 : (c == 43) = false := by simp; omega
    have hs : step 7 c = -1 := by
      have h1 : isDig c = false := by unfold isDig; simp; omega
      simp [step, h1, h2, h3, h4, h5, h6, h7]
    rw [hs]
    clear hs
    have hlh : c < 48 ∨ (48 ≤ c ∧ 57 < c) := by omega
    clear h
    rcases hlh with h | ⟨h, h'⟩
    all_goals
      go_enter Try.func16, Try.ntmps16
      go_wp2
      go_ret
      exact ⟨rfl, rfl⟩

set_option maxHeartbeats 1000000 in
theorem step8_c (c : Int) (w : World) :
    Calls Try.prog 16 #[.int .i64 8, .int .u8 c] w fun e w' => e = .returned (.int .i64 (step 8 c)) ∧ w' = w := by
  rcases byte_kinds c with rfl | rfl | rfl | rfl | rfl | rfl | h | h
  iterate 6
    · go_enter Try.func16, Try.ntmps16
      go_wp2
      go_ret
      exact ⟨ret_int (by decide), rfl⟩
  · have h2 : (c == 45) = false := by simp; omega
    have h3 : (c == 48) = false := by simp; omega
    have h4 : (c == 46) = false := by simp; omega
    have h5 : (c == 101) = false := by simp; omega
    have h6 : (c == 69) = false := by simp; omega
    have h7 : (c == 43) = false := by simp; omega
    have hs : step 8 c = 8 := by
      have h1 := isDig_yes h
      simp [step, h1, h2, h3, h4, h5, h6, h7]
    rw [hs]
    clear hs
    obtain ⟨g1, g2⟩ := h
    go_enter Try.func16, Try.ntmps16
    go_wp2
    go_ret
    exact ⟨rfl, rfl⟩
  · have h2 : (c == 45) = false := by simp; omega
    have h3 : (c == 48) = false := by simp; omega
    have h4 : (c == 46) = false := by simp; omega
    have h5 : (c == 101) = false := by simp; omega
    have h6 : (c == 69) = false := by simp; omega
    have h7 : (c == 43) = false := by simp; omega
    have hs : step 8 c = -1 := by
      have h1 : isDig c = false := by unfold isDig; simp; omega
      simp [step, h1, h2, h3, h4, h5, h6, h7]
    rw [hs]
    clear hs
    have hlh : c < 48 ∨ (48 ≤ c ∧ 57 < c) := by omega
    clear h
    rcases hlh with h | ⟨h, h'⟩
    all_goals
      go_enter Try.func16, Try.ntmps16
      go_wp2
      go_ret
      exact ⟨rfl, rfl⟩
end Go.Proofs.Qxb6001059a
