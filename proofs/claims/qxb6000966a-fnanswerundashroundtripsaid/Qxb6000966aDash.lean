import Derived.Test.Qxb6000966aRows
import Derived.WalkKit
import Derived.WalkLawsBesides
import Derived.Lib.Strings
import Derived.BigRegion
import Derived.BigQuiet
import Derived.Deep.RegionHeld3
/-! orDash, result: their contracts. -/
namespace Go.Proofs.Qxb6000966a
open Go.RowKit

theorem hide {p : Prop} (h : p) : Hid p := h
theorem ret_bool {a b : Bool} (h : a = b) : Ending.returned (.bool a) = .returned (.bool b) := by rw [h]

/-- s, or a dash where s is empty. -/
def dash (s : ByteArray) : ByteArray := if s.toList.isEmpty then ⟨#[45]⟩ else s

theorem dash_yes {s : ByteArray} (h : s.toList.isEmpty = true) : dash s = ⟨#[45]⟩ := by simp [dash, h]
theorem dash_no {s : ByteArray} (h : s.toList.isEmpty = false) : dash s = s := by simp [dash, h]

theorem orDash_c (s : ByteArray) (w : World) :
    Calls Try.prog 12 #[.string s] w fun e w' => e = .returned (.string (dash s)) ∧ w' = w := by
  cases h : s.toList.isEmpty with
  | true =>
    rw [dash_yes h]
    go_enter Try.func12, Try.ntmps12
    go_wp2
    go_ret
    exact ⟨rfl, rfl⟩
  | false =>
    rw [dash_no h]
    go_enter Try.func12, Try.ntmps12
    go_wp2
    go_ret
    exact ⟨rfl, rfl⟩

set_option maxHeartbeats 1000000 in
theorem result_c (v0 v1 v5 v6 v7 : Value) (st re vd : ByteArray) (w : World) :
    Calls Try.prog 11 #[.agg #[v0, v1, .string st, .string re, .string vd, v5, v6, v7]] w fun e w' => e = .returned (.agg #[.string st, .string (dash re), .string (dash vd)]) ∧ Below w.heap.size w w' := by
  go_enter Try.func11, Try.ntmps11
  go_wp2
  go_region_held3 (fun w' => w'.cell? ⟨w.heap.size, 2, none⟩ = some (.string st) ∧ w'.cell? ⟨w.heap.size, 3, none⟩ = some (.string re) ∧ w'.cell? ⟨w.heap.size, 4, none⟩ = some (.string vd)) (go_keep)
    (first | (go_at_call 12; refine (orDash_c _ _).mono ?_; rintro e w' ⟨rfl, rfl⟩))
  go_wp2
  exact bodyPost_ret (v := .agg #[.string st, .string (dash re), .string (dash vd)]) (by simp [results, Try.results11, go_sem]) rfl ⟨rfl, ((((Below.refl _ _).alloc (Nat.le_refl _) _).alloc (by simp) _)).drew⟩
end Go.Proofs.Qxb6000966a
