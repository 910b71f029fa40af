import Derived.Test.Qxb6000966aEqual
/-! buildDecisionB1, undashB1: their contracts. -/
namespace Go.Proofs.Qxb6000966a
open Go.RowKit
set_option linter.unusedSimpArgs false

/-- The empty string for a dash. -/
def undash (s : ByteArray) : ByteArray := if s.toList == [45] then ⟨#[]⟩ else s

theorem dashList : (⟨#[45]⟩ : ByteArray).toList = [45] := by rw [Lib.toList_data]
theorem nilList : (⟨#[]⟩ : ByteArray).toList = [] := by rw [Lib.toList_data]

theorem dash_full (s : ByteArray) : (dash s).toList.isEmpty = false := by
  unfold dash
  cases h : s.toList.isEmpty with
  | true => simp [dashList]
  | false => simp [h]

theorem undash_dash (s : ByteArray) (h : (s.toList == [45]) = false) : ((undash (dash s)).toList == s.toList) = true := by
  unfold dash undash
  cases e : s.toList.isEmpty with
  | true =>
    have : s.toList = [] := by simpa using e
    simp [dashList, nilList, this]
  | false => simp [h]

theorem undash_c (s : ByteArray) (w : World) :
    Calls Try.prog 8 #[.string s] w fun e w' => e = .returned (.string (undash s)) ∧ w' = w := by
  cases h : (s.toList == [45]) with
  | true =>
    have e : undash s = ⟨#[]⟩ := by simp [undash, h]
    rw [e]
    clear e
    go_enter Try.func8, Try.ntmps8
    go_wp2
    go_ret
    exact ⟨rfl, rfl⟩
  | false =>
    have e : undash s = s := by simp [undash, h]
    rw [e]
    clear e
    go_enter Try.func8, Try.ntmps8
    go_wp2
    go_ret
    exact ⟨rfl, rfl⟩

set_option maxHeartbeats 1000000 in
theorem build_no (pr : ByteArray) (no : Int) (st re vd sb ca a8 a9 a10 a11 : ByteArray) (w : World) :
    Calls Try.prog 6 #[.string pr, .int .i64 no, .string st, .string re, .string vd, .string sb, .string ca, .bool false, .string a8, .string a9, .string a10, .string a11] w
      fun e w' => e = .returned (.agg #[.string pr, .int .i64 no, .string st, .string re, .string vd, .string sb, .string ca, .pointer none]) ∧ Below w.heap.size w w' := by
  go_enter Try.func6, Try.ntmps6
  go_wp2
  refine bodyPost_ret (v := .agg #[.string pr, .int .i64 no, .string st, .string re, .string vd, .string sb, .string ca, .pointer none]) ?_ rfl ⟨rfl, ?_⟩
  · simp [results, Try.results6, go_sem]
  · exact ((Below.refl _ _).alloc (Nat.le_refl _) _).alloc (by simp) _

set_option maxHeartbeats 1000000 in
theorem build_yes (pr : ByteArray) (no : Int) (st re vd sb ca a8 a9 a10 a11 : ByteArray) (w : World) :
    Calls Try.prog 6 #[.string pr, .int .i64 no, .string st, .string re, .string vd, .string sb, .string ca, .bool true, .string a8, .string a9, .string a10, .string a11] w
      fun e w' => ∃ f, e = .returned (.agg #[.string pr, .int .i64 no, .string st, .string re, .string vd, .string sb, .string ca, .pointer (some ⟨f, 0, none⟩)]) ∧
        Box8 w' f (.string ⟨#[]⟩) (.int .i64 0) (.string a8) (.string a9) (.string a10) (.string a11) (.string ⟨#[]⟩) (.pointer none) ∧ f < w'.heap.size ∧ Below w.heap.size w w' := by
  go_enter Try.func6, Try.ntmps6
  go_wp2
  refine bodyPost_ret (v := .agg #[.string pr, .int .i64 no, .string st, .string re, .string vd, .string sb, .string ca, .pointer (some ⟨w.heap.size + 1 + 1, 0, none⟩)]) ?_ rfl ⟨w.heap.size + 1 + 1, rfl, ?_, ?_, ?_⟩
  · simp [results, Try.results6, go_sem]
  · simp [Box8, go_sem]
  · simp
  · exact (((Below.refl _ _).alloc (Nat.le_refl _) _).alloc (by simp) _).alloc (by simp; omega) _
end Go.Proofs.Qxb6000966a
