import Derived.Test.Qxb6000966aZzUnd
/-! FnAnswerUndashRoundTrip: the way on, without a first decision. -/
namespace Go.Proofs.Qxb6000966a
open Go.RowKit
set_option linter.unusedVariables false

namespace UndNo
theorem box8_alloc0 {W : World} {p : Nat} {v0 v1 v2 v3 v4 v5 v6 v7 : Value} (o : Obj) (hp : p < W.heap.size) (h : Box8 W p v0 v1 v2 v3 v4 v5 v6 v7) : Box8 (W.alloc o) p v0 v1 v2 v3 v4 v5 v6 v7 :=
  keep8 ((Below.refl _ _).alloc (Nat.le_refl _) o) hp h
theorem below_und {w w1 w2 : World} {o : Obj} (h1 : Below w.heap.size w w1) (h2 : Below (w1.alloc o).heap.size (w1.alloc o) w2) (p : Obj) : Below w.heap.size w (w2.alloc p) := by
  have e : Below w.heap.size w (w1.alloc o) := h1.alloc h1.size o
  have s1 : w.heap.size ≤ (w1.alloc o).heap.size := e.size
  exact (e.trans (h2.mono s1)).alloc (Nat.le_trans s1 h2.size) p

set_option maxRecDepth 100000 in
set_option maxHeartbeats 2000000 in
theorem und_no_3 (a0 : ByteArray) (a1 : Int) (a2 : ByteArray) (a3 : ByteArray) (a4 : ByteArray) (a5 : ByteArray) (a6 : ByteArray) (a8 : ByteArray) (a9 : ByteArray) (a10 : ByteArray) (a11 : ByteArray) (w : World) (w0 : a0.size ≤ maxLen) (w2 : a2.size ≤ maxLen) (w3 : a3.size ≤ maxLen) (w4 : a4.size ≤ maxLen) (w5 : a5.size ≤ maxLen) (w6 : a6.size ≤ maxLen) (w8 : a8.size ≤ maxLen) (w9 : a9.size ≤ maxLen) (w10 : a10.size ≤ maxLen) (w11 : a11.size ≤ maxLen) (h0 : a0.size ≤ 65536) (h2 : a2.size ≤ 65536) (h3 : a3.size ≤ 65536) (h4 : a4.size ≤ 65536) (h5 : a5.size ≤ 65536) (h6 : a6.size ≤ 65536) (h8 : a8.size ≤ 65536) (h9 : a9.size ≤ 65536) (h10 : a10.size ≤ 65536) (h11 : a11.size ≤ 65536)  (q3 : (a3.toList == [45]) = true) :
    Calls Try.prog 3 #[.string a0, .int .i64 a1, .string a2, .string a3, .string a4, .string a5, .string a6, .bool false, .string a8, .string a9, .string a10, .string a11] w fun e w' => e = .returned (.bool true) ∧ Below w.heap.size w w' := by
  have HZ := hide (fun w => zz5_c a0 a1 a2 a3 a4 a5 a6 false a8 a9 a10 a11 w w0 w2 w3 w4 w5 w6 w8 w9 w10 w11)
  clear w0 w2 w3 w4 w5 w6 w8 w9 w10 w11
  have f3 := dash_full a3
  have f4 := dash_full a4
  have f5 := dash_full a5
  have f9 := dash_full a9
  have f10 := dash_full a10
  go_enter Try.func3, Try.ntmps3
  go_wp2_with fail
  refine (HZ.out _).mono ?_
  rintro e w' ⟨⟨r, rfl⟩, rfl⟩
  cases r with
  | false =>
    go_wp2_with fail
    go_ret
    exact ⟨rfl, Below.refl _ _⟩
  | true =>
    clear HZ
    go_wp2_with fail
    refine (build_no _ _ _ _ _ _ _ _ _ _ _ _).mono ?_
    rintro e w1 ⟨rfl, hB1⟩
    have HB1 := hide hB1
    clear hB1
    go_wp2_with fail
    refine (answer_nil _ _ _ _ _ _ _ _).mono ?_
    rintro e w2 ⟨rfl, hB2⟩
    have HB2 := hide hB2
    clear hB2
    go_wp2_with (go_at_call 8; refine (undash_c _ _).mono ?_; rintro e wu ⟨rfl, rfl⟩)
    go_ret
    exact ⟨rfl, below_und HB1.out HB2.out _⟩

set_option maxRecDepth 100000 in
set_option maxHeartbeats 2000000 in
theorem und_no_4 (a0 : ByteArray) (a1 : Int) (a2 : ByteArray) (a3 : ByteArray) (a4 : ByteArray) (a5 : ByteArray) (a6 : ByteArray) (a8 : ByteArray) (a9 : ByteArray) (a10 : ByteArray) (a11 : ByteArray) (w : World) (w0 : a0.size ≤ maxLen) (w2 : a2.size ≤ maxLen) (w3 : a3.size ≤ maxLen) (w4 : a4.size ≤ maxLen) (w5 : a5.size ≤ maxLen) (w6 : a6.size ≤ maxLen) (w8 : a8.size ≤ maxLen) (w9 : a9.size ≤ maxLen) (w10 : a10.size ≤ maxLen) (w11 : a11.size ≤ maxLen) (h0 : a0.size ≤ 65536) (h2 : a2.size ≤ 65536) (h3 : a3.size ≤ 65536) (h4 : a4.size ≤ 65536) (h5 : a5.size ≤ 65536) (h6 : a6.size ≤ 65536) (h8 : a8.size ≤ 65536) (h9 : a9.size ≤ 65536) (h10 : a10.size ≤ 65536) (h11 : a11.size ≤ 65536) (q3 : (a3.toList == [45]) = false) (q4 : (a4.toList == [45]) = true) :
    Calls Try.prog 3 #[.string a0, .int .i64 a1, .string a2, .string a3, .string a4, .string a5, .string a6, .bool false, .string a8, .string a9, .string a10, .string a11] w fun e w' => e = .returned (.bool true) ∧ Below w.heap.size w w' := by
  have HZ := hide (fun w => zz5_c a0 a1 a2 a3 a4 a5 a6 false a8 a9 a10 a11 w w0 w2 w3 w4 w5 w6 w8 w9 w10 w11)
  clear w0 w2 w3 w4 w5 w6 w8 w9 w10 w11
  have f3 := dash_full a3
  have f4 := dash_full a4
  have f5 := dash_full a5
  have f9 := dash_full a9
  have f10 := dash_full a10
  go_enter Try.func3, Try.ntmps3
  go_wp2_with fail
  refine (HZ.out _).mono ?_
  rintro e w' ⟨⟨r, rfl⟩, rfl⟩
  cases r with
  | false =>
    go_wp2_with fail
    go_ret
    exact ⟨rfl, Below.refl _ _⟩
  | true =>
    clear HZ
    go_wp2_with fail
    refine (build_no _ _ _ _ _ _ _ _ _ _ _ _).mono ?_
    rintro e w1 ⟨rfl, hB1⟩
    have HB1 := hide hB1
    clear hB1
    go_wp2_with fail
    refine (answer_nil _ _ _ _ _ _ _ _).mono ?_
    rintro e w2 ⟨rfl, hB2⟩
    have HB2 := hide hB2
    clear hB2
    go_wp2_with (go_at_call 8; refine (undash_c _ _).mono ?_; rintro e wu ⟨rfl, rfl⟩)
    go_ret
    exact ⟨rfl, below_und HB1.out HB2.out _⟩

set_option maxRecDepth 100000 in
set_option maxHeartbeats 2000000 in
theorem und_no_5 (a0 : ByteArray) (a1 : Int) (a2 : ByteArray) (a3 : ByteArray) (a4 : ByteArray) (a5 : ByteArray) (a6 : ByteArray) (a8 : ByteArray) (a9 : ByteArray) (a10 : ByteArray) (a11 : ByteArray) (w : World) (w0 : a0.size ≤ maxLen) (w2 : a2.size ≤ maxLen) (w3 : a3.size ≤ maxLen) (w4 : a4.size ≤ maxLen) (w5 : a5.size ≤ maxLen) (w6 : a6.size ≤ maxLen) (w8 : a8.size ≤ maxLen) (w9 : a9.size ≤ maxLen) (w10 : a10.size ≤ maxLen) (w11 : a11.size ≤ maxLen) (h0 : a0.size ≤ 65536) (h2 : a2.size ≤ 65536) (h3 : a3.size ≤ 65536) (h4 : a4.size ≤ 65536) (h5 : a5.size ≤ 65536) (h6 : a6.size ≤ 65536) (h8 : a8.size ≤ 65536) (h9 : a9.size ≤ 65536) (h10 : a10.size ≤ 65536) (h11 : a11.size ≤ 65536) (q3 : (a3.toList == [45]) = false) (q4 : (a4.toList == [45]) = false) (q5 : (a5.toList == [45]) = true) :
    Calls Try.prog 3 #[.string a0, .int .i64 a1, .string a2, .string a3, .string a4, .string a5, .string a6, .bool false, .string a8, .string a9, .string a10, .string a11] w fun e w' => e = .returned (.bool true) ∧ Below w.heap.size w w' := by
  have HZ := hide (fun w => zz5_c a0 a1 a2 a3 a4 a5 a6 false a8 a9 a10 a11 w w0 w2 w3 w4 w5 w6 w8 w9 w10 w11)
  clear w0 w2 w3 w4 w5 w6 w8 w9 w10 w11
  have f3 := dash_full a3
  have f4 := dash_full a4
  have f5 := dash_full a5
  have f9 := dash_full a9
  have f10 := dash_full a10
  go_enter Try.func3, Try.ntmps3
  go_wp2_with fail
  refine (HZ.out _).mono ?_
  rintro e w' ⟨⟨r, rfl⟩, rfl⟩
  cases r with
  | false =>
    go_wp2_with fail
    go_ret
    exact ⟨rfl, Below.refl _ _⟩
  | true =>
    clear HZ
    go_wp2_with fail
    refine (build_no _ _ _ _ _ _ _ _ _ _ _ _).mono ?_
    rintro e w1 ⟨rfl, hB1⟩
    have HB1 := hide hB1
    clear hB1
    go_wp2_with fail
    refine (answer_nil _ _ _ _ _ _ _ _).mono ?_
    rintro e w2 ⟨rfl, hB2⟩
    have HB2 := hide hB2
    clear hB2
    go_wp2_with (go_at_call 8; refine (undash_c _ _).mono ?_; rintro e wu ⟨rfl, rfl⟩)
    go_ret
    exact ⟨rfl, below_und HB1.out HB2.out _⟩

set_option maxRecDepth 100000 in
set_option maxHeartbeats 2000000 in
theorem und_no_9 (a0 : ByteArray) (a1 : Int) (a2 : ByteArray) (a3 : ByteArray) (a4 : ByteArray) (a5 : ByteArray) (a6 : ByteArray) (a8 : ByteArray) (a9 : ByteArray) (a10 : ByteArray) (a11 : ByteArray) (w : World) (w0 : a0.size ≤ maxLen) (w2 : a2.size ≤ maxLen) (w3 : a3.size ≤ maxLen) (w4 : a4.size ≤ maxLen) (w5 : a5.size ≤ maxLen) (w6 : a6.size ≤ maxLen) (w8 : a8.size ≤ maxLen) (w9 : a9.size ≤ maxLen) (w10 : a10.size ≤ maxLen) (w11 : a11.size ≤ maxLen) (h0 : a0.size ≤ 65536) (h2 : a2.size ≤ 65536) (h3 : a3.size ≤ 65536) (h4 : a4.size ≤ 65536) (h5 : a5.size ≤ 65536) (h6 : a6.size ≤ 65536) (h8 : a8.size ≤ 65536) (h9 : a9.size ≤ 65536) (h10 : a10.size ≤ 65536) (h11 : a11.size ≤ 65536) (q3 : (a3.toList == [45]) = false) (q4 : (a4.toList == [45]) = false) (q5 : (a5.toList == [45]) = false) (q9 : (a9.toList == [45]) = true) :
    Calls Try.prog 3 #[.string a0, .int .i64 a1, .string a2, .string a3, .string a4, .string a5, .string a6, .bool false, .string a8, .string a9, .string a10, .string a11] w fun e w' => e = .returned (.bool true) ∧ Below w.heap.size w w' := by
  have HZ := hide (fun w => zz5_c a0 a1 a2 a3 a4 a5 a6 false a8 a9 a10 a11 w w0 w2 w3 w4 w5 w6 w8 w9 w10 w11)
  clear w0 w2 w3 w4 w5 w6 w8 w9 w10 w11
  have f3 := dash_full a3
  have f4 := dash_full a4
  have f5 := dash_full a5
  have f9 := dash_full a9
  have f10 := dash_full a10
  go_enter Try.func3, Try.ntmps3
  go_wp2_with fail
  refine (HZ.out _).mono ?_
  rintro e w' ⟨⟨r, rfl⟩, rfl⟩
  cases r with
  | false =>
    go_wp2_with fail
    go_ret
    exact ⟨rfl, Below.refl _ _⟩
  | true =>
    clear HZ
    go_wp2_with fail
    refine (build_no _ _ _ _ _ _ _ _ _ _ _ _).mono ?_
    rintro e w1 ⟨rfl, hB1⟩
    have HB1 := hide hB1
    clear hB1
    go_wp2_with fail
    refine (answer_nil _ _ _ _ _ _ _ _).mono ?_
    rintro e w2 ⟨rfl, hB2⟩
    have HB2 := hide hB2
    clear hB2
    go_wp2_with (go_at_call 8; refine (undash_c _ _).mono ?_; rintro e wu ⟨rfl, rfl⟩)
    go_ret
    exact ⟨rfl, below_und HB1.out HB2.out _⟩

set_option maxRecDepth 100000 in
set_option maxHeartbeats 2000000 in
theorem und_no_10 (a0 : ByteArray) (a1 : Int) (a2 : ByteArray) (a3 : ByteArray) (a4 : ByteArray) (a5 : ByteArray) (a6 : ByteArray) (a8 : ByteArray) (a9 : ByteArray) (a10 : ByteArray) (a11 : ByteArray) (w : World) (w0 : a0.size ≤ maxLen) (w2 : a2.size ≤ maxLen) (w3 : a3.size ≤ maxLen) (w4 : a4.size ≤ maxLen) (w5 : a5.size ≤ maxLen) (w6 : a6.size ≤ maxLen) (w8 : a8.size ≤ maxLen) (w9 : a9.size ≤ maxLen) (w10 : a10.size ≤ maxLen) (w11 : a11.size ≤ maxLen) (h0 : a0.size ≤ 65536) (h2 : a2.size ≤ 65536) (h3 : a3.size ≤ 65536) (h4 : a4.size ≤ 65536) (h5 : a5.size ≤ 65536) (h6 : a6.size ≤ 65536) (h8 : a8.size ≤ 65536) (h9 : a9.size ≤ 65536) (h10 : a10.size ≤ 65536) (h11 : a11.size ≤ 65536) (q3 : (a3.toList == [45]) = false) (q4 : (a4.toList == [45]) = false) (q5 : (a5.toList == [45]) = false) (q9 : (a9.toList == [45]) = false) (q10 : (a10.toList == [45]) = true) :
    Calls Try.prog 3 #[.string a0, .int .i64 a1, .string a2, .string a3, .string a4, .string a5, .string a6, .bool false, .string a8, .string a9, .string a10, .string a11] w fun e w' => e = .returned (.bool true) ∧ Below w.heap.size w w' := by
  have HZ := hide (fun w => zz5_c a0 a1 a2 a3 a4 a5 a6 false a8 a9 a10 a11 w w0 w2 w3 w4 w5 w6 w8 w9 w10 w11)
  clear w0 w2 w3 w4 w5 w6 w8 w9 w10 w11
  have f3 := dash_full a3
  have f4 := dash_full a4
  have f5 := dash_full a5
  have f9 := dash_full a9
  have f10 := dash_full a10
  go_enter Try.func3, Try.ntmps3
  go_wp2_with fail
  refine (HZ.out _).mono ?_
  rintro e w' ⟨⟨r, rfl⟩, rfl⟩
  cases r with
  | false =>
    go_wp2_with fail
    go_ret
    exact ⟨rfl, Below.refl _ _⟩
  | true =>
    clear HZ
    go_wp2_with fail
    refine (build_no _ _ _ _ _ _ _ _ _ _ _ _).mono ?_
    rintro e w1 ⟨rfl, hB1⟩
    have HB1 := hide hB1
    clear hB1
    go_wp2_with fail
    refine (answer_nil _ _ _ _ _ _ _ _).mono ?_
    rintro e w2 ⟨rfl, hB2⟩
    have HB2 := hide hB2
    clear hB2
    go_wp2_with (go_at_call 8; refine (undash_c _ _).mono ?_; rintro e wu ⟨rfl, rfl⟩)
    go_ret
    exact ⟨rfl, below_und HB1.out HB2.out _⟩

set_option maxRecDepth 100000 in
set_option maxHeartbeats 2000000 in
theorem und_no_all (a0 : ByteArray) (a1 : Int) (a2 : ByteArray) (a3 : ByteArray) (a4 : ByteArray) (a5 : ByteArray) (a6 : ByteArray) (a8 : ByteArray) (a9 : ByteArray) (a10 : ByteArray) (a11 : ByteArray) (w : World) (w0 : a0.size ≤ maxLen) (w2 : a2.size ≤ maxLen) (w3 : a3.size ≤ maxLen) (w4 : a4.size ≤ maxLen) (w5 : a5.size ≤ maxLen) (w6 : a6.size ≤ maxLen) (w8 : a8.size ≤ maxLen) (w9 : a9.size ≤ maxLen) (w10 : a10.size ≤ maxLen) (w11 : a11.size ≤ maxLen) (h0 : a0.size ≤ 65536) (h2 : a2.size ≤ 65536) (h3 : a3.size ≤ 65536) (h4 : a4.size ≤ 65536) (h5 : a5.size ≤ 65536) (h6 : a6.size ≤ 65536) (h8 : a8.size ≤ 65536) (h9 : a9.size ≤ 65536) (h10 : a10.size ≤ 65536) (h11 : a11.size ≤ 65536) (q3 : (a3.toList == [45]) = false) (q4 : (a4.toList == [45]) = false) (q5 : (a5.toList == [45]) = false) (q9 : (a9.toList == [45]) = false) (q10 : (a10.toList == [45]) = false) :
    Calls Try.prog 3 #[.string a0, .int .i64 a1, .string a2, .string a3, .string a4, .string a5, .string a6, .bool false, .string a8, .string a9, .string a10, .string a11] w fun e w' => e = .returned (.bool true) ∧ Below w.heap.size w w' := by
  have HZ := hide (fun w => zz5_c a0 a1 a2 a3 a4 a5 a6 false a8 a9 a10 a11 w w0 w2 w3 w4 w5 w6 w8 w9 w10 w11)
  clear w0 w2 w3 w4 w5 w6 w8 w9 w10 w11
  have f3 := dash_full a3
  have f4 := dash_full a4
  have f5 := dash_full a5
  have f9 := dash_full a9
  have f10 := dash_full a10
  have u3 := undash_dash a3 q3
  have u4 := undash_dash a4 q4
  have u5 := undash_dash a5 q5
  have u9 := undash_dash a9 q9
  have u10 := undash_dash a10 q10
  go_enter Try.func3, Try.ntmps3
  go_wp2_with fail
  refine (HZ.out _).mono ?_
  rintro e w' ⟨⟨r, rfl⟩, rfl⟩
  cases r with
  | false =>
    go_wp2_with fail
    go_ret
    exact ⟨rfl, Below.refl _ _⟩
  | true =>
    clear HZ
    go_wp2_with fail
    refine (build_no _ _ _ _ _ _ _ _ _ _ _ _).mono ?_
    rintro e w1 ⟨rfl, hB1⟩
    have HB1 := hide hB1
    clear hB1
    go_wp2_with fail
    refine (answer_nil _ _ _ _ _ _ _ _).mono ?_
    rintro e w2 ⟨rfl, hB2⟩
    have HB2 := hide hB2
    clear hB2
    go_wp2_with (go_at_call 8; refine (undash_c _ _).mono ?_; rintro e wu ⟨rfl, rfl⟩)
    go_ret
    exact ⟨rfl, below_und HB1.out HB2.out _⟩
end UndNo
end Go.Proofs.Qxb6000966a
