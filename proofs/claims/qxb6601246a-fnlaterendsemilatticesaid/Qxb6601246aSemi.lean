/- The proof of 'Rows.FnLaterEndSemilatticeSaid'. The frame is the kit's skeleton; the walk is ours. -/
import Derived.Test.Qxb6601246aRows
import Derived.WalkKit
import Derived.ProofKit
import Derived.OpenShut
import Derived.ShutString
import Derived.Test.Qxb6601246aLater
namespace Go.Proofs.Qxb6601246a.fnLaterEndSemilattice
open Go.ChangeShapes Go.WideShapes Go.ChangeAt Go.RowKit
open Go.ChangeMaps (open_string shut_string)
set_option linter.unusedVariables false      -- a walk need not use every 'w<i>' (that an integer argument fits its kind)

theorem own : ownKnob Try.prog.godebug = none := by kernel_rfl

/-! ### STEP 1: THE WALK -/
theorem nil_toList : (⟨#[]⟩ : ByteArray).toList = [] := by rw [Lib.toList_data]
theorem zero_toList : (⟨#[0]⟩ : ByteArray).toList = [0] := by rw [Lib.toList_data]
theorem ret_bool {a b : Bool} (h : a = b) : Ending.returned (.bool a) = .returned (.bool b) := by rw [h]
def smallB (a b c : ByteArray) : Bool := decide (a.size + b.size + c.size ≤ 1048576)

set_option maxHeartbeats 400000 in
theorem zz_c (a b c : ByteArray) (w : World) (w0 : a.size ≤ maxLen) (w1 : b.size ≤ maxLen) (w2 : c.size ≤ maxLen) :
    Calls Try.prog 11 #[.string a, .string b, .string c] w fun e w' => e = .returned (.bool (smallB a b c)) ∧ w' = w := by
  unfold maxLen at w0 w1 w2
  go_enter Try.func11, Try.ntmps11
  go_wp2
  all_goals
    go_ret
    refine ⟨ret_bool ?_, rfl⟩
    unfold smallB
    first
    | exact (decide_eq_true (by omega)).symm
    | exact (decide_eq_false (by omega)).symm

set_option maxHeartbeats 400000 in
theorem walk (a0 : ByteArray) (a1 : ByteArray) (a2 : ByteArray) (w0 : a0.size ≤ maxLen) (w1 : a1.size ≤ maxLen) (w2 : a2.size ≤ maxLen) (w : World) :
    Calls Try.prog 4 #[.string a0, .string a1, .string a2] w fun e w' => e = .returned (.bool true) ∧ Grown w w' := by
  have hz := fun w => zz_c a0 a1 a2 w w0 w1 w2
  cases hs : smallB a0 a1 a2 with
  | false =>
    rw [hs] at hz
    have H : Hid (∀ w : World, Calls Try.prog 11 #[.string a0, .string a1, .string a2] w fun e w' => e = .returned (.bool false) ∧ w' = w) := hz
    clear hz hs
    go_enter Try.func4, Try.ntmps4
    go_wp2_with (go_at_call 11; refine (H.out _).mono ?_; rintro e w' ⟨rfl, rfl⟩)
    go_ret
    exact ⟨rfl, Grown.refl _⟩
  | true =>
    rw [hs] at hz
    have H : Hid (∀ w : World, Calls Try.prog 11 #[.string a0, .string a1, .string a2] w fun e w' => e = .returned (.bool true) ∧ w' = w) := hz
    have hb : a0.size + a1.size + a2.size ≤ 1048576 := of_decide_eq_true hs
    clear hz hs w0 w1 w2
    have e1 : ((later a0 a1).toList == (later a1 a0).toList) = true := by rw [later_toList, later_toList, laterL_comm]; simp
    have e2 : ((later a0 a0).toList == a0.toList) = true := by rw [later_toList, laterL_idem]; simp
    have e3 : ((later (later a0 a1) a2).toList == (later a0 (later a1 a2)).toList) = true := by simp only [later_toList, laterL_assoc]; simp
    have e4 : ((later a0 ⟨#[]⟩).toList.isEmpty) = true := by rw [later_toList, nil_toList, laterL_nil_right]; rfl
    have e5 : ((later ⟨#[]⟩ a0).toList.isEmpty) = true := by rw [later_toList, nil_toList, laterL_nil_left]; rfl
    have e6 : ((later ⟨#[0]⟩ a0).toList == a0.toList) = true := by rw [later_toList, zero_toList, laterL_zero]; simp
    go_enter Try.func4, Try.ntmps4
    go_wp2_with (first | (go_at_call 11; refine (H.out _).mono ?_; rintro e w' ⟨rfl, rfl⟩) | (go_at_call 9; refine (ZZlaterEnd_c _ _ _).mono ?_; rintro e w' ⟨rfl, rfl⟩))
    go_ret
    exact ⟨rfl, Grown.refl _⟩

/-! ### THE ROW's STEP: WRITTEN OUT: LEAVE IT -/
set_option maxRecDepth 100000 in
theorem lifted (os : Os) (started : os.Started) (H : Type) (enc : TypeId × Value → H) :
    ReturnsInHanded {} Try.checked os 4 .any (Rows.fnLaterEndSemilatticeSpec.pre6 enc Try.prog Try.f4 Rows.fnLaterEndSemilatticeRow.domain false) (Rows.fnLaterEndSemilatticeSpec.post enc Try.prog Try.f4 false true false false) := by
  refine returnsInHanded_of_change (C := Try.checked) own started (by kernel_rfl) Try.func4
    (ChangeSpec.witness6 (enc := enc) (C := Try.checked) false ⟨#[], #[.string ByteArray.empty, .string ByteArray.empty, .string ByteArray.empty], []⟩ 8 (by kernel_rfl) (by kernel_rfl) (by kernel_rfl) (by kernel_rfl)) ?_
  intro W base args ds gs before hval0 hW hcnd _
  have hval : ∀ (j : Nat) t v, Try.f4.params[j]? = some t → args[j]? = some v → Value.okWide Try.prog W .any base t v := hval0
  have hW' := hW
  obtain ⟨p, q, hA0, hV, rfl, hfz, hnd⟩ := hW
  have hA : DataW.TrodAll enc Try.prog W 0 (fun _ => true) true Try.f4.params.toList args.toList ds p := hA0
  rw [Try.params4] at hA hval
  obtain ⟨v0, vs0, d0, ds0, p0, q0, hargs, rfl, rfl, h0, r0⟩ := trodAll_cons hA
  obtain ⟨v1, vs1, d1, ds1, p1, q1, rfl, rfl, rfl, h1, r1⟩ := trodAll_cons r0
  obtain ⟨v2, vs2, d2, ds2, p2, q2, rfl, rfl, rfl, h2, r2⟩ := trodAll_cons r1
  obtain ⟨rfl, rfl, rfl⟩ := trodAll_nil r2
  obtain rfl : args = #[v0, v1, v2] := by cases args; simp_all
  obtain ⟨rfl, rfl⟩ := trodVars_none hV
  obtain ⟨a0, rfl, rfl, rfl, w0⟩ := open_string Try.underlying9 (hval 0 9 v0 rfl rfl) h0
  obtain ⟨a1, rfl, rfl, rfl, w1⟩ := open_string Try.underlying9 (hval 1 9 v1 rfl rfl) h1
  obtain ⟨a2, rfl, rfl, rfl, w2⟩ := open_string Try.underlying9 (hval 2 9 v2 rfl rfl) h2
  clear hA0 hval0
  simp only [List.append_nil] at hW'
  refine (walk a0 a1 a2 w0 w1 w2 W).mono fun e W' ⟨he, hg⟩ => ?_
  subst he
  exact ⟨_, rfl, post_of_same (pa := []) (pv := []) hW' (fun _ _ _ => (trodAll_cons_mk (shut_bool Try.underlying4 _) trodAll_mk0)) (fun sp _ => (trodAll_cons_mk (shut_string Try.underlying9 w0) (trodAll_cons_mk (shut_string Try.underlying9 w1) (trodAll_cons_mk (shut_string Try.underlying9 w2) trodAll_mk0)))) (fun _ _ => rfl) rfl
    (hg.frame _) hg.2.1 (ok_one (by kernel_rfl) rfl (okWide_bool_mk Try.underlying4 _))⟩

theorem over : Rows.fnLaterEndSemilatticeRow.holds Try.pinned (OpenSpec.ofChange Rows.fnLaterEndSemilatticeSpec) :=
  OpenClaim.holds_of_wide 4 Try.f4 rfl rfl rfl rfl rfl rfl rfl ⟨rfl, rfl, rfl, rfl, rfl⟩ rfl rfl rfl rfl rfl (by kernel_rfl) Try.func4 (by kernel_rfl)
    (of_decide_eq_true (by kernel_rfl)) (by unfold Func.isWrapper; first | (rw [if_pos (by decide +kernel)]; kernel_rfl) | (rw [if_neg (by decide +kernel)]; exact ⟨rfl, rfl⟩))
    (fun os started H enc _ => lifted os started H enc)

/-- ████ THE STATEMENT ████ -/
theorem proved : Rows.FnLaterEndSemilatticeSaid :=
  over
#print axioms proved
end Go.Proofs.Qxb6601246a.fnLaterEndSemilattice
