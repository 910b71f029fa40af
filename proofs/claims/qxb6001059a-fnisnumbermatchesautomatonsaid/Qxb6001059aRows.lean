/-
  No cell of these rows narrows 'for every input' (looked for: loops, veiled, ifaces, maps, wideKeys, modest, calm, conditions, laid).
  DERIVED. THE GIVEN ROWS OF THIS SEAT. 4 by the template 'for every input the law returns true; each argument reads behind the call as it read before'; 0 by the template 'total and deterministic' (their statements: Qxb6001059aTotals.lean).
  GIVEN WITH THE SEED: the statements are not yours to turn. If you find one false, say at which input.
  Laid BY PROGRAM, IN A SANDBOX (cutbox-rows.mjs): the forced cells as the released guide's own fill.sh prints them over the translation 9a371114d1cb4d26… (all of the seat's roots in one cut). By AI agents, Wed Nov 11 2026. No macro, syntax, notation, axiom, sorry.
-/
import Derived.Test.Qxb6001059aChecked
import GoSem.Claim
import GoSem.ClaimJoined
import GoSem.ClaimMapViews
import Derived.JoinedTies
import Derived.KernelRfl
namespace Go.Proofs.Qxb6001059a
/- THE CELL 'sum', in the pinned program and in every row, IS THE sha256 OF THE DUMP (.gsa) THAT Qxb6001059aProg.lean LOADS. Nothing in Lean hashes anything: it is a label: what it is worth is what the hold of that sum in a sandbox is worth. -/
noncomputable def Try.pinned : Pinned := { name := "qxb6001059a", sum := "9a371114d1cb4d261e49438d63b54103ab804d2dc14fd0c2a34dc1f140827093", checked := Try.checked }
namespace Rows
def none {H : Type} : Left H := { results := [], args := [] }

/-- 'zzlaws_internal_record_b1.FnIsNumberMatchesAutomaton': WHATEVER THE INPUT: true; the input reads as it did. -/
def fnIsNumberMatchesAutomatonSpec : ChangeSpec := { name := "fnIsNumberMatchesAutomaton", fn := fun _ => fun
  | [d] => { results := [.lit (.bool true)], args := [d] }
  | _ => none }
def fnIsNumberMatchesAutomatonRow : OpenClaim := { program := "qxb6001059a", sum := "9a371114d1cb4d261e49438d63b54103ab804d2dc14fd0c2a34dc1f140827093", func := "example.com/nestdraw/nestdraw/zzlaws_internal_record_b1.FnIsNumberMatchesAutomaton", spec := "fnIsNumberMatchesAutomaton", unfollowed := true, recurses := true, apart := false }
def FnIsNumberMatchesAutomatonSaid : Prop := fnIsNumberMatchesAutomatonRow.holds Try.pinned (OpenSpec.ofChange fnIsNumberMatchesAutomatonSpec)

/-- ITS FALSE NEIGHBOUR: 'it returns false'. Refute it at one input. -/
def fnIsNumberMatchesAutomatonWrong : ChangeSpec := { name := "fnIsNumberMatchesAutomaton", fn := fun _ => fun
  | [d] => { results := [.lit (.bool false)], args := [d] }
  | _ => none }
def FnIsNumberMatchesAutomatonWrongFalsely : Prop := fnIsNumberMatchesAutomatonRow.holds Try.pinned (OpenSpec.ofChange fnIsNumberMatchesAutomatonWrong)

/-- 'zzlaws_internal_record_b1.FnIsNumberMinusSign': WHATEVER THE INPUT: true; the input reads as it did. -/
def fnIsNumberMinusSignSpec : ChangeSpec := { name := "fnIsNumberMinusSign", fn := fun _ => fun
  | [d] => { results := [.lit (.bool true)], args := [d] }
  | _ => none }
def fnIsNumberMinusSignRow : OpenClaim := { program := "qxb6001059a", sum := "9a371114d1cb4d261e49438d63b54103ab804d2dc14fd0c2a34dc1f140827093", func := "example.com/nestdraw/nestdraw/zzlaws_internal_record_b1.FnIsNumberMinusSign", spec := "fnIsNumberMinusSign", unfollowed := true, recurses := true, apart := false }
def FnIsNumberMinusSignSaid : Prop := fnIsNumberMinusSignRow.holds Try.pinned (OpenSpec.ofChange fnIsNumberMinusSignSpec)

/-- ITS FALSE NEIGHBOUR: 'it returns false'. Refute it at one input. -/
def fnIsNumberMinusSignWrong : ChangeSpec := { name := "fnIsNumberMinusSign", fn := fun _ => fun
  | [d] => { results := [.lit (.bool false)], args := [d] }
  | _ => none }
def FnIsNumberMinusSignWrongFalsely : Prop := fnIsNumberMinusSignRow.holds Try.pinned (OpenSpec.ofChange fnIsNumberMinusSignWrong)

/-- 'zzlaws_internal_record_b1.FnIsNumberAppendDigit': WHATEVER THE INPUT: true; the input reads as it did. -/
def fnIsNumberAppendDigitSpec : ChangeSpec := { name := "fnIsNumberAppendDigit", fn := fun _ => fun
  | [d1, d2] => { results := [.lit (.bool true)], args := [d1, d2] }
  | _ => none }
def fnIsNumberAppendDigitRow : OpenClaim := { program := "qxb6001059a", sum := "9a371114d1cb4d261e49438d63b54103ab804d2dc14fd0c2a34dc1f140827093", func := "example.com/nestdraw/nestdraw/zzlaws_internal_record_b1.FnIsNumberAppendDigit", spec := "fnIsNumberAppendDigit", unfollowed := true, recurses := true, apart := false }
def FnIsNumberAppendDigitSaid : Prop := fnIsNumberAppendDigitRow.holds Try.pinned (OpenSpec.ofChange fnIsNumberAppendDigitSpec)

/-- ITS FALSE NEIGHBOUR: 'it returns false'. Refute it at one input. -/
def fnIsNumberAppendDigitWrong : ChangeSpec := { name := "fnIsNumberAppendDigit", fn := fun _ => fun
  | [d1, d2] => { results := [.lit (.bool false)], args := [d1, d2] }
  | _ => none }
def FnIsNumberAppendDigitWrongFalsely : Prop := fnIsNumberAppendDigitRow.holds Try.pinned (OpenSpec.ofChange fnIsNumberAppendDigitWrong)

/-- 'zzlaws_internal_record_b1.FnKindOfSeparatesOpeners': WHATEVER THE INPUT: true; the input reads as it did. -/
def fnKindOfSeparatesOpenersSpec : ChangeSpec := { name := "fnKindOfSeparatesOpeners", fn := fun _ => fun
  | [d1, d2] => { results := [.lit (.bool true)], args := [d1, d2] }
  | _ => none }
def fnKindOfSeparatesOpenersRow : OpenClaim := { program := "qxb6001059a", sum := "9a371114d1cb4d261e49438d63b54103ab804d2dc14fd0c2a34dc1f140827093", func := "example.com/nestdraw/nestdraw/zzlaws_internal_record_b1.FnKindOfSeparatesOpeners", spec := "fnKindOfSeparatesOpeners", apart := false }
def FnKindOfSeparatesOpenersSaid : Prop := fnKindOfSeparatesOpenersRow.holds Try.pinned (OpenSpec.ofChange fnKindOfSeparatesOpenersSpec)

/-- ITS FALSE NEIGHBOUR: 'it returns false'. Refute it at one input. -/
def fnKindOfSeparatesOpenersWrong : ChangeSpec := { name := "fnKindOfSeparatesOpeners", fn := fun _ => fun
  | [d1, d2] => { results := [.lit (.bool false)], args := [d1, d2] }
  | _ => none }
def FnKindOfSeparatesOpenersWrongFalsely : Prop := fnKindOfSeparatesOpenersRow.holds Try.pinned (OpenSpec.ofChange fnKindOfSeparatesOpenersWrong)

end Rows
end Go.Proofs.Qxb6001059a
