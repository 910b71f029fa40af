import Derived.Test.Qxb6000966aBuild
/-! zzBytes_FnAnswerUndashRoundTrip: it returns a bool and leaves the world alone. -/
namespace Go.Proofs.Qxb6000966a
open Go.RowKit

/-- It returns a bool. -/
def SomeBool (e : Ending) : Prop := ∃ r : Bool, e = .returned (.bool r)
theorem SomeBool.mk (r : Bool) : SomeBool (.returned (.bool r)) := ⟨r, rfl⟩

set_option maxHeartbeats 1000000 in
theorem zz5_c (a0 : ByteArray) (a1 : Int) (a2 : ByteArray) (a3 : ByteArray) (a4 : ByteArray) (a5 : ByteArray) (a6 : ByteArray) (a7 : Bool) (a8 : ByteArray) (a9 : ByteArray) (a10 : ByteArray) (a11 : ByteArray) (w : World) (w0 : a0.size ≤ maxLen) (w2 : a2.size ≤ maxLen) (w3 : a3.size ≤ maxLen) (w4 : a4.size ≤ maxLen) (w5 : a5.size ≤ maxLen) (w6 : a6.size ≤ maxLen) (w8 : a8.size ≤ maxLen) (w9 : a9.size ≤ maxLen) (w10 : a10.size ≤ maxLen) (w11 : a11.size ≤ maxLen) :
    Calls Try.prog 5 #[.string a0, .int .i64 a1, .string a2, .string a3, .string a4, .string a5, .string a6, .bool a7, .string a8, .string a9, .string a10, .string a11] w fun e w' => SomeBool e ∧ w' = w := by
  unfold maxLen at w0 w2 w3 w4 w5 w6 w8 w9 w10 w11
  go_enter Try.func5, Try.ntmps5
  go_wp2
  all_goals
    go_ret
    exact ⟨SomeBool.mk _, rfl⟩
end Go.Proofs.Qxb6000966a
