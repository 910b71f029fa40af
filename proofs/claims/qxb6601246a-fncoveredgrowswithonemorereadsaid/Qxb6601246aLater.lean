import Derived.Test.Qxb6601246aRows
import Derived.Test.Qxb6601246aPlain
import Derived.WalkKit
import Derived.WalkLawsBesides
import Derived.Lib.Strings
/-! laterEnd and ZZlaterEnd: their contracts. -/
namespace Go.Proofs.Qxb6601246a
open Go.RowKit

/-- The later of two ends, over byte arrays. -/
def later (a b : ByteArray) : ByteArray :=
  if a.toList.isEmpty then ByteArray.empty else if b.toList.isEmpty then ByteArray.empty else if Op.bytesLess a.toList b.toList then b else a

theorem later_toList (a b : ByteArray) : (later a b).toList = laterL a.toList b.toList := by
  unfold later laterL
  by_cases ha : a.toList = []
  · simp [ha]
  · by_cases hb : b.toList = []
    · simp [ha, hb]
    · simp only [List.isEmpty_iff, ha, hb, if_false]
      split <;> rfl

theorem run_max_later {P : Program} (w : World) (ts : Array TypeId) (t : TypeId) (x y : ByteArray) (hx : x.toList.isEmpty = false) (hy : y.toList.isEmpty = false) :
    (Builtin.max_ ts t #[.string x, .string y]).run P w = .ok (.string (later x y)) w := by
  unfold later
  cases h : Op.bytesLess x.toList y.toList <;> simp [Builtin.max_, Builtin.max2, Op.stringOp, asBool, h, hx, hy]

set_option maxHeartbeats 400000 in
theorem laterEnd_c (a b : ByteArray) (w : World) :
    Calls Try.prog 21 #[.string a, .string b] w fun e w' => e = .returned (.string (later a b)) ∧ w' = w := by
  cases ha : a.toList.isEmpty with
  | true =>
    have hl : later a b = ByteArray.empty := by unfold later; simp [ha]
    rw [hl]
    go_enter Try.func21, Try.ntmps21
    go_wp2
    go_ret
    exact ⟨rfl, rfl⟩
  | false =>
    cases hb : b.toList.isEmpty with
    | true =>
      have hl : later a b = ByteArray.empty := by unfold later; simp [hb]
      rw [hl]
      go_enter Try.func21, Try.ntmps21
      go_wp2
      go_ret
      exact ⟨rfl, rfl⟩
    | false =>
      have hm := fun (w : World) (ts : Array TypeId) (t : TypeId) => run_max_later (P := Try.prog) w ts t a b ha hb
      go_enter Try.func21, Try.ntmps21
      go_wp2
      go_ret
      exact ⟨rfl, rfl⟩

theorem ZZlaterEnd_c (a b : ByteArray) (w : World) :
    Calls Try.prog 9 #[.string a, .string b] w fun e w' => e = .returned (.string (later a b)) ∧ w' = w := by
  go_enter Try.func9, Try.ntmps9
  go_wp2_with (go_at_call 21; refine (laterEnd_c _ _ _).mono ?_; rintro e w' ⟨rfl, rfl⟩)
  go_ret
  exact ⟨rfl, rfl⟩
end Go.Proofs.Qxb6601246a
