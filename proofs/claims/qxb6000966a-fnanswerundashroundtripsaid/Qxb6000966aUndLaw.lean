/- The proof of 'Rows.FnAnswerUndashRoundTripSaid'. The frame is the kit's skeleton (its end by 'Below'); the walks lie in texts of their own. -/
import Derived.Test.Qxb6000966aRows
import Derived.WalkKit
import Derived.ProofKit
import Derived.OpenShut
import Derived.ShutString
import Derived.ChangeOld
import Derived.Below
import Derived.Test.Qxb6000966aUndLong
import Derived.Test.Qxb6000966aUndYes
import Derived.Test.Qxb6000966aUndNo
namespace Go.Proofs.Qxb6000966a.fnAnswerUndashRoundTrip
open Go.ChangeShapes Go.WideShapes Go.ChangeAt Go.RowKit
open Go.ChangeMaps (open_string shut_string)
set_option linter.unusedVariables false      -- a walk need not use every 'w<i>' (that an integer argument fits its kind)

theorem own : ownKnob Try.prog.godebug = none := by kernel_rfl

/-! ### STEP 1: THE WALK -/
theorem walk (a0 : ByteArray) (a1 : Int) (a2 : ByteArray) (a3 : ByteArray) (a4 : ByteArray) (a5 : ByteArray) (a6 : ByteArray) (a7 : Bool) (a8 : ByteArray) (a9 : ByteArray) (a10 : ByteArray) (a11 : ByteArray) (w0 : a0.size ≤ maxLen) (w1 : (Lit.int .i64 a1).wf = true) (w2 : a2.size ≤ maxLen) (w3 : a3.size ≤ maxLen) (w4 : a4.size ≤ maxLen) (w5 : a5.size ≤ maxLen) (w6 : a6.size ≤ maxLen) (w8 : a8.size ≤ maxLen) (w9 : a9.size ≤ maxLen) (w10 : a10.size ≤ maxLen) (w11 : a11.size ≤ maxLen) (w : World) :
    Calls Try.prog 3 #[.string a0, .int .i64 a1, .string a2, .string a3, .string a4, .string a5, .string a6, .bool a7, .string a8, .string a9, .string a10, .string a11] w fun e w' => e = .returned (.bool true) ∧ Below w.heap.size w w' := by
  by_cases h0 : a0.size ≤ 65536
  rotate_left
  · exact und_long0 a0 a1 a2 a3 a4 a5 a6 a7 a8 a9 a10 a11 w w0 w2 w3 w4 w5 w6 w8 w9 w10 w11  (by omega)
  by_cases h2 : a2.size ≤ 65536
  rotate_left
  · exact und_long2 a0 a1 a2 a3 a4 a5 a6 a7 a8 a9 a10 a11 w w0 w2 w3 w4 w5 w6 w8 w9 w10 w11 h0 (by omega)
  by_cases h3 : a3.size ≤ 65536
  rotate_left
  · exact und_long3 a0 a1 a2 a3 a4 a5 a6 a7 a8 a9 a10 a11 w w0 w2 w3 w4 w5 w6 w8 w9 w10 w11 h0 h2 (by omega)
  by_cases h4 : a4.size ≤ 65536
  rotate_left
  · exact und_long4 a0 a1 a2 a3 a4 a5 a6 a7 a8 a9 a10 a11 w w0 w2 w3 w4 w5 w6 w8 w9 w10 w11 h0 h2 h3 (by omega)
  by_cases h5 : a5.size ≤ 65536
  rotate_left
  · exact und_long5 a0 a1 a2 a3 a4 a5 a6 a7 a8 a9 a10 a11 w w0 w2 w3 w4 w5 w6 w8 w9 w10 w11 h0 h2 h3 h4 (by omega)
  by_cases h6 : a6.size ≤ 65536
  rotate_left
  · exact und_long6 a0 a1 a2 a3 a4 a5 a6 a7 a8 a9 a10 a11 w w0 w2 w3 w4 w5 w6 w8 w9 w10 w11 h0 h2 h3 h4 h5 (by omega)
  by_cases h8 : a8.size ≤ 65536
  rotate_left
  · exact und_long8 a0 a1 a2 a3 a4 a5 a6 a7 a8 a9 a10 a11 w w0 w2 w3 w4 w5 w6 w8 w9 w10 w11 h0 h2 h3 h4 h5 h6 (by omega)
  by_cases h9 : a9.size ≤ 65536
  rotate_left
  · exact und_long9 a0 a1 a2 a3 a4 a5 a6 a7 a8 a9 a10 a11 w w0 w2 w3 w4 w5 w6 w8 w9 w10 w11 h0 h2 h3 h4 h5 h6 h8 (by omega)
  by_cases h10 : a10.size ≤ 65536
  rotate_left
  · exact und_long10 a0 a1 a2 a3 a4 a5 a6 a7 a8 a9 a10 a11 w w0 w2 w3 w4 w5 w6 w8 w9 w10 w11 h0 h2 h3 h4 h5 h6 h8 h9 (by omega)
  by_cases h11 : a11.size ≤ 65536
  rotate_left
  · exact und_long11 a0 a1 a2 a3 a4 a5 a6 a7 a8 a9 a10 a11 w w0 w2 w3 w4 w5 w6 w8 w9 w10 w11 h0 h2 h3 h4 h5 h6 h8 h9 h10 (by omega)
  cases a7 with
  | true =>
    cases q3 : (a3.toList == [45]) with
    | true => exact UndYes.und_yes_3 a0 a1 a2 a3 a4 a5 a6 a8 a9 a10 a11 w w0 w2 w3 w4 w5 w6 w8 w9 w10 w11 h0 h2 h3 h4 h5 h6 h8 h9 h10 h11 q3
    | false =>
    cases q4 : (a4.toList == [45]) with
    | true => exact UndYes.und_yes_4 a0 a1 a2 a3 a4 a5 a6 a8 a9 a10 a11 w w0 w2 w3 w4 w5 w6 w8 w9 w10 w11 h0 h2 h3 h4 h5 h6 h8 h9 h10 h11 q3 q4
    | false =>
    cases q5 : (a5.toList == [45]) with
    | true => exact UndYes.und_yes_5 a0 a1 a2 a3 a4 a5 a6 a8 a9 a10 a11 w w0 w2 w3 w4 w5 w6 w8 w9 w10 w11 h0 h2 h3 h4 h5 h6 h8 h9 h10 h11 q3 q4 q5
    | false =>
    cases q9 : (a9.toList == [45]) with
    | true => exact UndYes.und_yes_9 a0 a1 a2 a3 a4 a5 a6 a8 a9 a10 a11 w w0 w2 w3 w4 w5 w6 w8 w9 w10 w11 h0 h2 h3 h4 h5 h6 h8 h9 h10 h11 q3 q4 q5 q9
    | false =>
    cases q10 : (a10.toList == [45]) with
    | true => exact UndYes.und_yes_10 a0 a1 a2 a3 a4 a5 a6 a8 a9 a10 a11 w w0 w2 w3 w4 w5 w6 w8 w9 w10 w11 h0 h2 h3 h4 h5 h6 h8 h9 h10 h11 q3 q4 q5 q9 q10
    | false =>
    exact UndYes.und_yes_all a0 a1 a2 a3 a4 a5 a6 a8 a9 a10 a11 w w0 w2 w3 w4 w5 w6 w8 w9 w10 w11 h0 h2 h3 h4 h5 h6 h8 h9 h10 h11 q3 q4 q5 q9 q10
  | false =>
    cases q3 : (a3.toList == [45]) with
    | true => exact UndNo.und_no_3 a0 a1 a2 a3 a4 a5 a6 a8 a9 a10 a11 w w0 w2 w3 w4 w5 w6 w8 w9 w10 w11 h0 h2 h3 h4 h5 h6 h8 h9 h10 h11 q3
    | false =>
    cases q4 : (a4.toList == [45]) with
    | true => exact UndNo.und_no_4 a0 a1 a2 a3 a4 a5 a6 a8 a9 a10 a11 w w0 w2 w3 w4 w5 w6 w8 w9 w10 w11 h0 h2 h3 h4 h5 h6 h8 h9 h10 h11 q3 q4
    | false =>
    cases q5 : (a5.toList == [45]) with
    | true => exact UndNo.und_no_5 a0 a1 a2 a3 a4 a5 a6 a8 a9 a10 a11 w w0 w2 w3 w4 w5 w6 w8 w9 w10 w11 h0 h2 h3 h4 h5 h6 h8 h9 h10 h11 q3 q4 q5
    | false =>
    cases q9 : (a9.toList == [45]) with
    | true => exact UndNo.und_no_9 a0 a1 a2 a3 a4 a5 a6 a8 a9 a10 a11 w w0 w2 w3 w4 w5 w6 w8 w9 w10 w11 h0 h2 h3 h4 h5 h6 h8 h9 h10 h11 q3 q4 q5 q9
    | false =>
    cases q10 : (a10.toList == [45]) with
    | true => exact UndNo.und_no_10 a0 a1 a2 a3 a4 a5 a6 a8 a9 a10 a11 w w0 w2 w3 w4 w5 w6 w8 w9 w10 w11 h0 h2 h3 h4 h5 h6 h8 h9 h10 h11 q3 q4 q5 q9 q10
    | false =>
    exact UndNo.und_no_all a0 a1 a2 a3 a4 a5 a6 a8 a9 a10 a11 w w0 w2 w3 w4 w5 w6 w8 w9 w10 w11 h0 h2 h3 h4 h5 h6 h8 h9 h10 h11 q3 q4 q5 q9 q10

/-! ### THE ROW's STEP: WRITTEN OUT: LEAVE IT -/
set_option maxRecDepth 100000 in
theorem lifted (os : Os) (started : os.Started) (H : Type) (enc : TypeId × Value → H) :
    ReturnsInHanded {} Try.checked os 3 .any (Rows.fnAnswerUndashRoundTripSpec.pre6 enc Try.prog Try.f3 Rows.fnAnswerUndashRoundTripRow.domain false) (Rows.fnAnswerUndashRoundTripSpec.post enc Try.prog Try.f3 false true false false) := by
  refine returnsInHanded_of_change (C := Try.checked) own started (by kernel_rfl) Try.func3
    (ChangeSpec.witness6 (enc := enc) (C := Try.checked) false ⟨#[], #[.string ByteArray.empty, .int .i64 0, .string ByteArray.empty, .string ByteArray.empty, .string ByteArray.empty, .string ByteArray.empty, .string ByteArray.empty, .bool false, .string ByteArray.empty, .string ByteArray.empty, .string ByteArray.empty, .string ByteArray.empty], []⟩ 8 (by kernel_rfl) (by kernel_rfl) (by kernel_rfl) (by kernel_rfl)) ?_
  intro W base args ds gs before hval0 hW hcnd _
  have hval : ∀ (j : Nat) t v, Try.f3.params[j]? = some t → args[j]? = some v → Value.okWide Try.prog W .any base t v := hval0
  have hW' := hW
  obtain ⟨p, q, hA0, hV, rfl, hfz, hnd⟩ := hW
  have hA : DataW.TrodAll enc Try.prog W 0 (fun _ => true) true Try.f3.params.toList args.toList ds p := hA0
  rw [Try.params3] at hA hval
  obtain ⟨v0, vs0, d0, ds0, p0, q0, hargs, rfl, rfl, h0, r0⟩ := trodAll_cons hA
  obtain ⟨v1, vs1, d1, ds1, p1, q1, rfl, rfl, rfl, h1, r1⟩ := trodAll_cons r0
  obtain ⟨v2, vs2, d2, ds2, p2, q2, rfl, rfl, rfl, h2, r2⟩ := trodAll_cons r1
  obtain ⟨v3, vs3, d3, ds3, p3, q3, rfl, rfl, rfl, h3, r3⟩ := trodAll_cons r2
  obtain ⟨v4, vs4, d4, ds4, p4, q4, rfl, rfl, rfl, h4, r4⟩ := trodAll_cons r3
  obtain ⟨v5, vs5, d5, ds5, p5, q5, rfl, rfl, rfl, h5, r5⟩ := trodAll_cons r4
  obtain ⟨v6, vs6, d6, ds6, p6, q6, rfl, rfl, rfl, h6, r6⟩ := trodAll_cons r5
  obtain ⟨v7, vs7, d7, ds7, p7, q7, rfl, rfl, rfl, h7, r7⟩ := trodAll_cons r6
  obtain ⟨v8, vs8, d8, ds8, p8, q8, rfl, rfl, rfl, h8, r8⟩ := trodAll_cons r7
  obtain ⟨v9, vs9, d9, ds9, p9, q9, rfl, rfl, rfl, h9, r9⟩ := trodAll_cons r8
  obtain ⟨v10, vs10, d10, ds10, p10, q10, rfl, rfl, rfl, h10, r10⟩ := trodAll_cons r9
  obtain ⟨v11, vs11, d11, ds11, p11, q11, rfl, rfl, rfl, h11, r11⟩ := trodAll_cons r10
  obtain ⟨rfl, rfl, rfl⟩ := trodAll_nil r11
  obtain rfl : args = #[v0, v1, v2, v3, v4, v5, v6, v7, v8, v9, v10, v11] := by cases args; simp_all
  obtain ⟨rfl, rfl⟩ := trodVars_none hV
  obtain ⟨a0, rfl, rfl, rfl, w0⟩ := open_string Try.underlying9 (hval 0 9 v0 rfl rfl) h0
  obtain ⟨a1, rfl, rfl, rfl, w1⟩ := open_int Try.underlying2 (hval 1 2 v1 rfl rfl) h1
  obtain ⟨a2, rfl, rfl, rfl, w2⟩ := open_string Try.underlying9 (hval 2 9 v2 rfl rfl) h2
  obtain ⟨a3, rfl, rfl, rfl, w3⟩ := open_string Try.underlying9 (hval 3 9 v3 rfl rfl) h3
  obtain ⟨a4, rfl, rfl, rfl, w4⟩ := open_string Try.underlying9 (hval 4 9 v4 rfl rfl) h4
  obtain ⟨a5, rfl, rfl, rfl, w5⟩ := open_string Try.underlying9 (hval 5 9 v5 rfl rfl) h5
  obtain ⟨a6, rfl, rfl, rfl, w6⟩ := open_string Try.underlying9 (hval 6 9 v6 rfl rfl) h6
  obtain ⟨a7, rfl, rfl, rfl⟩ := open_bool Try.underlying4 (hval 7 4 v7 rfl rfl) h7
  obtain ⟨a8, rfl, rfl, rfl, w8⟩ := open_string Try.underlying9 (hval 8 9 v8 rfl rfl) h8
  obtain ⟨a9, rfl, rfl, rfl, w9⟩ := open_string Try.underlying9 (hval 9 9 v9 rfl rfl) h9
  obtain ⟨a10, rfl, rfl, rfl, w10⟩ := open_string Try.underlying9 (hval 10 9 v10 rfl rfl) h10
  obtain ⟨a11, rfl, rfl, rfl, w11⟩ := open_string Try.underlying9 (hval 11 9 v11 rfl rfl) h11
  clear hA0 hval0
  simp only [List.append_nil] at hW'
  refine (walk a0 a1 a2 a3 a4 a5 a6 a7 a8 a9 a10 a11 w0 w1 w2 w3 w4 w5 w6 w8 w9 w10 w11 W).mono fun e W' ⟨he, bel⟩ => ?_
  subst he
  exact ⟨_, rfl, _, _, _, [], _, [], hW', trodAll_mk1 (shut_bool Try.underlying4 _), (trodAll_cons_mk (shut_string Try.underlying9 w0) (trodAll_cons_mk (shut_int Try.underlying2 w1) (trodAll_cons_mk (shut_string Try.underlying9 w2) (trodAll_cons_mk (shut_string Try.underlying9 w3) (trodAll_cons_mk (shut_string Try.underlying9 w4) (trodAll_cons_mk (shut_string Try.underlying9 w5) (trodAll_cons_mk (shut_string Try.underlying9 w6) (trodAll_cons_mk (shut_bool Try.underlying4 _) (trodAll_cons_mk (shut_string Try.underlying9 w8) (trodAll_cons_mk (shut_string Try.underlying9 w9) (trodAll_cons_mk (shut_string Try.underlying9 w10) (trodAll_cons_mk (shut_string Try.underlying9 w11) trodAll_mk0)))))))))))), rfl, bel.frame _, fun h => by cases h⟩

theorem over : Rows.fnAnswerUndashRoundTripRow.holds Try.pinned (OpenSpec.ofChange Rows.fnAnswerUndashRoundTripSpec) :=
  OpenClaim.holds_of_wide 3 Try.f3 rfl rfl rfl rfl rfl rfl rfl ⟨rfl, rfl, rfl, rfl, rfl⟩ rfl rfl rfl rfl rfl (by kernel_rfl) Try.func3 (by kernel_rfl)
    (of_decide_eq_true (by kernel_rfl)) (by unfold Func.isWrapper; first | (rw [if_pos (by decide +kernel)]; kernel_rfl) | (rw [if_neg (by decide +kernel)]; exact ⟨rfl, rfl⟩))
    (fun os started H enc _ => lifted os started H enc)

/-- ████ THE STATEMENT ████ -/
theorem proved : Rows.FnAnswerUndashRoundTripSaid :=
  over
#print axioms proved
end Go.Proofs.Qxb6000966a.fnAnswerUndashRoundTrip
