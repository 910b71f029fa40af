/- The proof of 'Rows.FnLaterEndIsLeastUpperBoundSaid'. The frame is the kit's skeleton; the walk is ours. -/
import Derived.Test.Qxb6601246aRows
import Derived.WalkKit
import Derived.ProofKit
import Derived.OpenShut
import Derived.ShutString
import Derived.Test.Qxb6601246aLess
namespace Go.Proofs.Qxb6601246a.fnLaterEndIsLeastUpperBound
open Go.ChangeShapes Go.WideShapes Go.ChangeAt Go.RowKit
open Go.ChangeMaps (open_string shut_string)
set_option linter.unusedVariables false      -- a walk need not use every 'w<i>' (that an integer argument fits its kind)

theorem own : ownKnob Try.prog.godebug = none := by kernel_rfl

/-! ### STEP 1: THE WALK -/
def smallB (a b : ByteArray) : Bool := decide (a.size + b.size ≤ 1048576)

theorem later_size (a b : ByteArray) (ha : a.size ≤ maxLen) (hb : b.size ≤ maxLen) : (later a b).size ≤ maxLen := by
  unfold later
  split
  · exact Nat.zero_le _
  · split
    · exact Nat.zero_le _
    · split
      · exact hb
      · exact ha

set_option maxHeartbeats 400000 in
theorem zz_c (a b : ByteArray) (w : World) (w0 : a.size ≤ maxLen) (w1 : b.size ≤ maxLen) :
    Calls Try.prog 8 #[.string a, .string b] w fun e w' => e = .returned (.bool (smallB a b)) ∧ w' = w := by
  unfold maxLen at w0 w1
  go_enter Try.func8, Try.ntmps8
  go_wp2
  all_goals
    go_ret
    refine ⟨ret_bool ?_, rfl⟩
    unfold smallB
    first
    | exact (decide_eq_true (by omega)).symm
    | exact (decide_eq_false (by omega)).symm

set_option maxHeartbeats 400000 in
theorem walk (a0 : ByteArray) (a1 : ByteArray) (w0 : a0.size ≤ maxLen) (w1 : a1.size ≤ maxLen) (w : World) :
    Calls Try.prog 3 #[.string a0, .string a1] w fun e w' => e = .returned (.bool true) ∧ Grown w w' := by
  have hz := fun w => zz_c a0 a1 w w0 w1
  cases hs : smallB a0 a1 with
  | false =>
    rw [hs] at hz
    have H : Hid _ := hz
    clear hz hs
    go_enter Try.func3, Try.ntmps3
    go_wp2_with (go_at_call 8; refine (H.out _).mono ?_; rintro e w' ⟨rfl, rfl⟩)
    go_ret
    exact ⟨rfl, Grown.refl _⟩
  | true =>
    rw [hs] at hz
    have H : Hid _ := hz
    have hb : a0.size + a1.size ≤ 1048576 := of_decide_eq_true hs
    have hE0 := fun w => endNoLater_c a0 (later a0 a1) w w0 (later_size a0 a1 w0 w1)
    have hE1 := fun w => endNoLater_c a1 (later a0 a1) w w1 (later_size a0 a1 w0 w1)
    rw [later_toList, noLaterL_left] at hE0
    rw [later_toList, noLaterL_right] at hE1
    have HE0 : Hid _ := hE0
    have HE1 : Hid _ := hE1
    clear hz hs w0 w1 hE0 hE1
    have e1 : ((later a0 a1).toList == a0.toList) = true ∨ (((later a0 a1).toList == a0.toList) = false ∧ ((later a0 a1).toList == a1.toList) = true) := by
      rw [later_toList]
      cases e : (laterL a0.toList a1.toList == a0.toList) with
      | true => exact Or.inl rfl
      | false =>
        refine Or.inr ⟨rfl, ?_⟩
        rcases laterL_or a0.toList a1.toList with h | h
        · rw [h] at e; simp at e
        · rw [h]; simp
    rcases e1 with e1 | ⟨e1, e2⟩
    all_goals
      go_enter Try.func3, Try.ntmps3
      go_wp2_with (first | (go_at_call 8; refine (H.out _).mono ?_; rintro e w' ⟨rfl, rfl⟩) | (go_at_call 9; refine (ZZlaterEnd_c _ _ _).mono ?_; rintro e w' ⟨rfl, rfl⟩))
      refine (HE0.out _).mono ?_
      rintro e w' ⟨rfl, n0, rfl⟩
      go_wp2_with fail
      refine (HE1.out _).mono ?_
      rintro e w' ⟨rfl, n1, rfl⟩
      go_wp2_with fail
      go_ret
      exact ⟨rfl, Grown.refl _⟩

/-! ### THE ROW's STEP: WRITTEN OUT: LEAVE IT -/
set_option maxRecDepth 100000 in
theorem lifted (os : Os) (started : os.Started) (H : Type) (enc : TypeId × Value → H) :
    ReturnsInHanded {} Try.checked os 3 .any (Rows.fnLaterEndIsLeastUpperBoundSpec.pre6 enc Try.prog Try.f3 Rows.fnLaterEndIsLeastUpperBoundRow.domain false) (Rows.fnLaterEndIsLeastUpperBoundSpec.post enc Try.prog Try.f3 false true false false) := by
  refine returnsInHanded_of_change (C := Try.checked) own started (by kernel_rfl) Try.func3
    (ChangeSpec.witness6 (enc := enc) (C := Try.checked) false ⟨#[], #[.string ByteArray.empty, .string ByteArray.empty], []⟩ 8 (by kernel_rfl) (by kernel_rfl) (by kernel_rfl) (by kernel_rfl)) ?_
  intro W base args ds gs before hval0 hW hcnd _
  have hval : ∀ (j : Nat) t v, Try.f3.params[j]? = some t → args[j]? = some v → Value.okWide Try.prog W .any base t v := hval0
  have hW' := hW
  obtain ⟨p, q, hA0, hV, rfl, hfz, hnd⟩ := hW
  have hA : DataW.TrodAll enc Try.prog W 0 (fun _ => true) true Try.f3.params.toList args.toList ds p := hA0
  rw [Try.params3] at hA hval
  obtain ⟨v0, vs0, d0, ds0, p0, q0, hargs, rfl, rfl, h0, r0⟩ := trodAll_cons hA
  obtain ⟨v1, vs1, d1, ds1, p1, q1, rfl, rfl, rfl, h1, r1⟩ := trodAll_cons r0
  obtain ⟨rfl, rfl, rfl⟩ := trodAll_nil r1
  obtain rfl : args = #[v0, v1] := by cases args; simp_all
  obtain ⟨rfl, rfl⟩ := trodVars_none hV
  obtain ⟨a0, rfl, rfl, rfl, w0⟩ := open_string Try.underlying9 (hval 0 9 v0 rfl rfl) h0
  obtain ⟨a1, rfl, rfl, rfl, w1⟩ := open_string Try.underlying9 (hval 1 9 v1 rfl rfl) h1
  clear hA0 hval0
  simp only [List.append_nil] at hW'
  refine (walk a0 a1 w0 w1 W).mono fun e W' ⟨he, hg⟩ => ?_
  subst he
  exact ⟨_, rfl, post_of_same (pa := []) (pv := []) hW' (fun _ _ _ => (trodAll_cons_mk (shut_bool Try.underlying4 _) trodAll_mk0)) (fun sp _ => (trodAll_cons_mk (shut_string Try.underlying9 w0) (trodAll_cons_mk (shut_string Try.underlying9 w1) trodAll_mk0))) (fun _ _ => rfl) rfl
    (hg.frame _) hg.2.1 (ok_one (by kernel_rfl) rfl (okWide_bool_mk Try.underlying4 _))⟩

theorem over : Rows.fnLaterEndIsLeastUpperBoundRow.holds Try.pinned (OpenSpec.ofChange Rows.fnLaterEndIsLeastUpperBoundSpec) :=
  OpenClaim.holds_of_wide 3 Try.f3 rfl rfl rfl rfl rfl rfl rfl ⟨rfl, rfl, rfl, rfl, rfl⟩ rfl rfl rfl rfl rfl (by kernel_rfl) Try.func3 (by kernel_rfl)
    (of_decide_eq_true (by kernel_rfl)) (by unfold Func.isWrapper; first | (rw [if_pos (by decide +kernel)]; kernel_rfl) | (rw [if_neg (by decide +kernel)]; exact ⟨rfl, rfl⟩))
    (fun os started H enc _ => lifted os started H enc)

/-- ████ THE STATEMENT ████ -/
theorem proved : Rows.FnLaterEndIsLeastUpperBoundSaid :=
  over
#print axioms proved
end Go.Proofs.Qxb6601246a.fnLaterEndIsLeastUpperBound
