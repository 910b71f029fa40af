import Derived.Test.Qxb6000966aZzUnd
/-! FnAnswerUndashRoundTrip: the ways on which a string is too long. -/
namespace Go.Proofs.Qxb6000966a
open Go.RowKit
set_option linter.unusedVariables false

set_option maxRecDepth 100000 in
set_option maxHeartbeats 1000000 in
theorem und_long0 (a0 : ByteArray) (a1 : Int) (a2 : ByteArray) (a3 : ByteArray) (a4 : ByteArray) (a5 : ByteArray) (a6 : ByteArray) (a7 : Bool) (a8 : ByteArray) (a9 : ByteArray) (a10 : ByteArray) (a11 : ByteArray) (w : World) (w0 : a0.size ≤ maxLen) (w2 : a2.size ≤ maxLen) (w3 : a3.size ≤ maxLen) (w4 : a4.size ≤ maxLen) (w5 : a5.size ≤ maxLen) (w6 : a6.size ≤ maxLen) (w8 : a8.size ≤ maxLen) (w9 : a9.size ≤ maxLen) (w10 : a10.size ≤ maxLen) (w11 : a11.size ≤ maxLen)  (h0 : 65536 < a0.size) :
    Calls Try.prog 3 #[.string a0, .int .i64 a1, .string a2, .string a3, .string a4, .string a5, .string a6, .bool a7, .string a8, .string a9, .string a10, .string a11] w fun e w' => e = .returned (.bool true) ∧ Below w.heap.size w w' := by
  have HZ := hide (fun w => zz5_c a0 a1 a2 a3 a4 a5 a6 a7 a8 a9 a10 a11 w w0 w2 w3 w4 w5 w6 w8 w9 w10 w11)
  clear w0 w2 w3 w4 w5 w6 w8 w9 w10 w11
  go_enter Try.func3, Try.ntmps3
  go_wp2_with fail
  refine (HZ.out _).mono ?_
  rintro e w' ⟨⟨r, rfl⟩, rfl⟩
  cases r
  all_goals
    go_wp2_with fail
    go_ret
    exact ⟨rfl, Below.refl _ _⟩

set_option maxRecDepth 100000 in
set_option maxHeartbeats 1000000 in
theorem und_long2 (a0 : ByteArray) (a1 : Int) (a2 : ByteArray) (a3 : ByteArray) (a4 : ByteArray) (a5 : ByteArray) (a6 : ByteArray) (a7 : Bool) (a8 : ByteArray) (a9 : ByteArray) (a10 : ByteArray) (a11 : ByteArray) (w : World) (w0 : a0.size ≤ maxLen) (w2 : a2.size ≤ maxLen) (w3 : a3.size ≤ maxLen) (w4 : a4.size ≤ maxLen) (w5 : a5.size ≤ maxLen) (w6 : a6.size ≤ maxLen) (w8 : a8.size ≤ maxLen) (w9 : a9.size ≤ maxLen) (w10 : a10.size ≤ maxLen) (w11 : a11.size ≤ maxLen) (h0 : a0.size ≤ 65536) (h2 : 65536 < a2.size) :
    Calls Try.prog 3 #[.string a0, .int .i64 a1, .string a2, .string a3, .string a4, .string a5, .string a6, .bool a7, .string a8, .string a9, .string a10, .string a11] w fun e w' => e = .returned (.bool true) ∧ Below w.heap.size w w' := by
  have HZ := hide (fun w => zz5_c a0 a1 a2 a3 a4 a5 a6 a7 a8 a9 a10 a11 w w0 w2 w3 w4 w5 w6 w8 w9 w10 w11)
  clear w0 w2 w3 w4 w5 w6 w8 w9 w10 w11
  go_enter Try.func3, Try.ntmps3
  go_wp2_with fail
  refine (HZ.out _).mono ?_
  rintro e w' ⟨⟨r, rfl⟩, rfl⟩
  cases r
  all_goals
    go_wp2_with fail
    go_ret
    exact ⟨rfl, Below.refl _ _⟩

set_option maxRecDepth 100000 in
set_option maxHeartbeats 1000000 in
theorem und_long3 (a0 : ByteArray) (a1 : Int) (a2 : ByteArray) (a3 : ByteArray) (a4 : ByteArray) (a5 : ByteArray) (a6 : ByteArray) (a7 : Bool) (a8 : ByteArray) (a9 : ByteArray) (a10 : ByteArray) (a11 : ByteArray) (w : World) (w0 : a0.size ≤ maxLen) (w2 : a2.size ≤ maxLen) (w3 : a3.size ≤ maxLen) (w4 : a4.size ≤ maxLen) (w5 : a5.size ≤ maxLen) (w6 : a6.size ≤ maxLen) (w8 : a8.size ≤ maxLen) (w9 : a9.size ≤ maxLen) (w10 : a10.size ≤ maxLen) (w11 : a11.size ≤ maxLen) (h0 : a0.size ≤ 65536) (h2 : a2.size ≤ 65536) (h3 : 65536 < a3.size) :
    Calls Try.prog 3 #[.string a0, .int .i64 a1, .string a2, .string a3, .string a4, .string a5, .string a6, .bool a7, .string a8, .string a9, .string a10, .string a11] w fun e w' => e = .returned (.bool true) ∧ Below w.heap.size w w' := by
  have HZ := hide (fun w => zz5_c a0 a1 a2 a3 a4 a5 a6 a7 a8 a9 a10 a11 w w0 w2 w3 w4 w5 w6 w8 w9 w10 w11)
  clear w0 w2 w3 w4 w5 w6 w8 w9 w10 w11
  go_enter Try.func3, Try.ntmps3
  go_wp2_with fail
  refine (HZ.out _).mono ?_
  rintro e w' ⟨⟨r, rfl⟩, rfl⟩
  cases r
  all_goals
    go_wp2_with fail
    go_ret
    exact ⟨rfl, Below.refl _ _⟩

set_option maxRecDepth 100000 in
set_option maxHeartbeats 1000000 in
theorem und_long4 (a0 : ByteArray) (a1 : Int) (a2 : ByteArray) (a3 : ByteArray) (a4 : ByteArray) (a5 : ByteArray) (a6 : ByteArray) (a7 : Bool) (a8 : ByteArray) (a9 : ByteArray) (a10 : ByteArray) (a11 : ByteArray) (w : World) (w0 : a0.size ≤ maxLen) (w2 : a2.size ≤ maxLen) (w3 : a3.size ≤ maxLen) (w4 : a4.size ≤ maxLen) (w5 : a5.size ≤ maxLen) (w6 : a6.size ≤ maxLen) (w8 : a8.size ≤ maxLen) (w9 : a9.size ≤ maxLen) (w10 : a10.size ≤ maxLen) (w11 : a11.size ≤ maxLen) (h0 : a0.size ≤ 65536) (h2 : a2.size ≤ 65536) (h3 : a3.size ≤ 65536) (h4 : 65536 < a4.size) :
    Calls Try.prog 3 #[.string a0, .int .i64 a1, .string a2, .string a3, .string a4, .string a5, .string a6, .bool a7, .string a8, .string a9, .string a10, .string a11] w fun e w' => e = .returned (.bool true) ∧ Below w.heap.size w w' := by
  have HZ := hide (fun w => zz5_c a0 a1 a2 a3 a4 a5 a6 a7 a8 a9 a10 a11 w w0 w2 w3 w4 w5 w6 w8 w9 w10 w11)
  clear w0 w2 w3 w4 w5 w6 w8 w9 w10 w11
  go_enter Try.func3, Try.ntmps3
  go_wp2_with fail
  refine (HZ.out _).mono ?_
  rintro e w' ⟨⟨r, rfl⟩, rfl⟩
  cases r
  all_goals
    go_wp2_with fail
    go_ret
    exact ⟨rfl, Below.refl _ _⟩

set_option maxRecDepth 100000 in
set_option maxHeartbeats 1000000 in
theorem und_long5 (a0 : ByteArray) (a1 : Int) (a2 : ByteArray) (a3 : ByteArray) (a4 : ByteArray) (a5 : ByteArray) (a6 : ByteArray) (a7 : Bool) (a8 : ByteArray) (a9 : ByteArray) (a10 : ByteArray) (a11 : ByteArray) (w : World) (w0 : a0.size ≤ maxLen) (w2 : a2.size ≤ maxLen) (w3 : a3.size ≤ maxLen) (w4 : a4.size ≤ maxLen) (w5 : a5.size ≤ maxLen) (w6 : a6.size ≤ maxLen) (w8 : a8.size ≤ maxLen) (w9 : a9.size ≤ maxLen) (w10 : a10.size ≤ maxLen) (w11 : a11.size ≤ maxLen) (h0 : a0.size ≤ 65536) (h2 : a2.size ≤ 65536) (h3 : a3.size ≤ 65536) (h4 : a4.size ≤ 65536) (h5 : 65536 < a5.size) :
    Calls Try.prog 3 #[.string a0, .int .i64 a1, .string a2, .string a3, .string a4, .string a5, .string a6, .bool a7, .string a8, .string a9, .string a10, .string a11] w fun e w' => e = .returned (.bool true) ∧ Below w.heap.size w w' := by
  have HZ := hide (fun w => zz5_c a0 a1 a2 a3 a4 a5 a6 a7 a8 a9 a10 a11 w w0 w2 w3 w4 w5 w6 w8 w9 w10 w11)
  clear w0 w2 w3 w4 w5 w6 w8 w9 w10 w11
  go_enter Try.func3, Try.ntmps3
  go_wp2_with fail
  refine (HZ.out _).mono ?_
  rintro e w' ⟨⟨r, rfl⟩, rfl⟩
  cases r
  all_goals
    go_wp2_with fail
    go_ret
    exact ⟨rfl, Below.refl _ _⟩

set_option maxRecDepth 100000 in
set_option maxHeartbeats 1000000 in
theorem und_long6 (a0 : ByteArray) (a1 : Int) (a2 : ByteArray) (a3 : ByteArray) (a4 : ByteArray) (a5 : ByteArray) (a6 : ByteArray) (a7 : Bool) (a8 : ByteArray) (a9 : ByteArray) (a10 : ByteArray) (a11 : ByteArray) (w : World) (w0 : a0.size ≤ maxLen) (w2 : a2.size ≤ maxLen) (w3 : a3.size ≤ maxLen) (w4 : a4.size ≤ maxLen) (w5 : a5.size ≤ maxLen) (w6 : a6.size ≤ maxLen) (w8 : a8.size ≤ maxLen) (w9 : a9.size ≤ maxLen) (w10 : a10.size ≤ maxLen) (w11 : a11.size ≤ maxLen) (h0 : a0.size ≤ 65536) (h2 : a2.size ≤ 65536) (h3 : a3.size ≤ 65536) (h4 : a4.size ≤ 65536) (h5 : a5.size ≤ 65536) (h6 : 65536 < a6.size) :
    Calls Try.prog 3 #[.string a0, .int .i64 a1, .string a2, .string a3, .string a4, .string a5, .string a6, .bool a7, .string a8, .string a9, .string a10, .string a11] w fun e w' => e = .returned (.bool true) ∧ Below w.heap.size w w' := by
  have HZ := hide (fun w => zz5_c a0 a1 a2 a3 a4 a5 a6 a7 a8 a9 a10 a11 w w0 w2 w3 w4 w5 w6 w8 w9 w10 w11)
  clear w0 w2 w3 w4 w5 w6 w8 w9 w10 w11
  go_enter Try.func3, Try.ntmps3
  go_wp2_with fail
  refine (HZ.out _).mono ?_
  rintro e w' ⟨⟨r, rfl⟩, rfl⟩
  cases r
  all_goals
    go_wp2_with fail
    go_ret
    exact ⟨rfl, Below.refl _ _⟩

set_option maxRecDepth 100000 in
set_option maxHeartbeats 1000000 in
theorem und_long8 (a0 : ByteArray) (a1 : Int) (a2 : ByteArray) (a3 : ByteArray) (a4 : ByteArray) (a5 : ByteArray) (a6 : ByteArray) (a7 : Bool) (a8 : ByteArray) (a9 : ByteArray) (a10 : ByteArray) (a11 : ByteArray) (w : World) (w0 : a0.size ≤ maxLen) (w2 : a2.size ≤ maxLen) (w3 : a3.size ≤ maxLen) (w4 : a4.size ≤ maxLen) (w5 : a5.size ≤ maxLen) (w6 : a6.size ≤ maxLen) (w8 : a8.size ≤ maxLen) (w9 : a9.size ≤ maxLen) (w10 : a10.size ≤ maxLen) (w11 : a11.size ≤ maxLen) (h0 : a0.size ≤ 65536) (h2 : a2.size ≤ 65536) (h3 : a3.size ≤ 65536) (h4 : a4.size ≤ 65536) (h5 : a5.size ≤ 65536) (h6 : a6.size ≤ 65536) (h8 : 65536 < a8.size) :
    Calls Try.prog 3 #[.string a0, .int .i64 a1, .string a2, .string a3, .string a4, .string a5, .string a6, .bool a7, .string a8, .string a9, .string a10, .string a11] w fun e w' => e = .returned (.bool true) ∧ Below w.heap.size w w' := by
  have HZ := hide (fun w => zz5_c a0 a1 a2 a3 a4 a5 a6 a7 a8 a9 a10 a11 w w0 w2 w3 w4 w5 w6 w8 w9 w10 w11)
  clear w0 w2 w3 w4 w5 w6 w8 w9 w10 w11
  go_enter Try.func3, Try.ntmps3
  go_wp2_with fail
  refine (HZ.out _).mono ?_
  rintro e w' ⟨⟨r, rfl⟩, rfl⟩
  cases r
  all_goals
    go_wp2_with fail
    go_ret
    exact ⟨rfl, Below.refl _ _⟩

set_option maxRecDepth 100000 in
set_option maxHeartbeats 1000000 in
theorem und_long9 (a0 : ByteArray) (a1 : Int) (a2 : ByteArray) (a3 : ByteArray) (a4 : ByteArray) (a5 : ByteArray) (a6 : ByteArray) (a7 : Bool) (a8 : ByteArray) (a9 : ByteArray) (a10 : ByteArray) (a11 : ByteArray) (w : World) (w0 : a0.size ≤ maxLen) (w2 : a2.size ≤ maxLen) (w3 : a3.size ≤ maxLen) (w4 : a4.size ≤ maxLen) (w5 : a5.size ≤ maxLen) (w6 : a6.size ≤ maxLen) (w8 : a8.size ≤ maxLen) (w9 : a9.size ≤ maxLen) (w10 : a10.size ≤ maxLen) (w11 : a11.size ≤ maxLen) (h0 : a0.size ≤ 65536) (h2 : a2.size ≤ 65536) (h3 : a3.size ≤ 65536) (h4 : a4.size ≤ 65536) (h5 : a5.size ≤ 65536) (h6 : a6.size ≤ 65536) (h8 : a8.size ≤ 65536) (h9 : 65536 < a9.size) :
    Calls Try.prog 3 #[.string a0, .int .i64 a1, .string a2, .string a3, .string a4, .string a5, .string a6, .bool a7, .string a8, .string a9, .string a10, .string a11] w fun e w' => e = .returned (.bool true) ∧ Below w.heap.size w w' := by
  have HZ := hide (fun w => zz5_c a0 a1 a2 a3 a4 a5 a6 a7 a8 a9 a10 a11 w w0 w2 w3 w4 w5 w6 w8 w9 w10 w11)
  clear w0 w2 w3 w4 w5 w6 w8 w9 w10 w11
  go_enter Try.func3, Try.ntmps3
  go_wp2_with fail
  refine (HZ.out _).mono ?_
  rintro e w' ⟨⟨r, rfl⟩, rfl⟩
  cases r
  all_goals
    go_wp2_with fail
    go_ret
    exact ⟨rfl, Below.refl _ _⟩

set_option maxRecDepth 100000 in
set_option maxHeartbeats 1000000 in
theorem und_long10 (a0 : ByteArray) (a1 : Int) (a2 : ByteArray) (a3 : ByteArray) (a4 : ByteArray) (a5 : ByteArray) (a6 : ByteArray) (a7 : Bool) (a8 : ByteArray) (a9 : ByteArray) (a10 : ByteArray) (a11 : ByteArray) (w : World) (w0 : a0.size ≤ maxLen) (w2 : a2.size ≤ maxLen) (w3 : a3.size ≤ maxLen) (w4 : a4.size ≤ maxLen) (w5 : a5.size ≤ maxLen) (w6 : a6.size ≤ maxLen) (w8 : a8.size ≤ maxLen) (w9 : a9.size ≤ maxLen) (w10 : a10.size ≤ maxLen) (w11 : a11.size ≤ maxLen) (h0 : a0.size ≤ 65536) (h2 : a2.size ≤ 65536) (h3 : a3.size ≤ 65536) (h4 : a4.size ≤ 65536) (h5 : a5.size ≤ 65536) (h6 : a6.size ≤ 65536) (h8 : a8.size ≤ 65536) (h9 : a9.size ≤ 65536) (h10 : 65536 < a10.size) :
    Calls Try.prog 3 #[.string a0, .int .i64 a1, .string a2, .string a3, .string a4, .string a5, .string a6, .bool a7, .string a8, .string a9, .string a10, .string a11] w fun e w' => e = .returned (.bool true) ∧ Below w.heap.size w w' := by
  have HZ := hide (fun w => zz5_c a0 a1 a2 a3 a4 a5 a6 a7 a8 a9 a10 a11 w w0 w2 w3 w4 w5 w6 w8 w9 w10 w11)
  clear w0 w2 w3 w4 w5 w6 w8 w9 w10 w11
  go_enter Try.func3, Try.ntmps3
  go_wp2_with fail
  refine (HZ.out _).mono ?_
  rintro e w' ⟨⟨r, rfl⟩, rfl⟩
  cases r
  all_goals
    go_wp2_with fail
    go_ret
    exact ⟨rfl, Below.refl _ _⟩

set_option maxRecDepth 100000 in
set_option maxHeartbeats 1000000 in
theorem und_long11 (a0 : ByteArray) (a1 : Int) (a2 : ByteArray) (a3 : ByteArray) (a4 : ByteArray) (a5 : ByteArray) (a6 : ByteArray) (a7 : Bool) (a8 : ByteArray) (a9 : ByteArray) (a10 : ByteArray) (a11 : ByteArray) (w : World) (w0 : a0.size ≤ maxLen) (w2 : a2.size ≤ maxLen) (w3 : a3.size ≤ maxLen) (w4 : a4.size ≤ maxLen) (w5 : a5.size ≤ maxLen) (w6 : a6.size ≤ maxLen) (w8 : a8.size ≤ maxLen) (w9 : a9.size ≤ maxLen) (w10 : a10.size ≤ maxLen) (w11 : a11.size ≤ maxLen) (h0 : a0.size ≤ 65536) (h2 : a2.size ≤ 65536) (h3 : a3.size ≤ 65536) (h4 : a4.size ≤ 65536) (h5 : a5.size ≤ 65536) (h6 : a6.size ≤ 65536) (h8 : a8.size ≤ 65536) (h9 : a9.size ≤ 65536) (h10 : a10.size ≤ 65536) (h11 : 65536 < a11.size) :
    Calls Try.prog 3 #[.string a0, .int .i64 a1, .string a2, .string a3, .string a4, .string a5, .string a6, .bool a7, .string a8, .string a9, .string a10, .string a11] w fun e w' => e = .returned (.bool true) ∧ Below w.heap.size w w' := by
  have HZ := hide (fun w => zz5_c a0 a1 a2 a3 a4 a5 a6 a7 a8 a9 a10 a11 w w0 w2 w3 w4 w5 w6 w8 w9 w10 w11)
  clear w0 w2 w3 w4 w5 w6 w8 w9 w10 w11
  go_enter Try.func3, Try.ntmps3
  go_wp2_with fail
  refine (HZ.out _).mono ?_
  rintro e w' ⟨⟨r, rfl⟩, rfl⟩
  cases r
  all_goals
    go_wp2_with fail
    go_ret
    exact ⟨rfl, Below.refl _ _⟩
end Go.Proofs.Qxb6000966a
