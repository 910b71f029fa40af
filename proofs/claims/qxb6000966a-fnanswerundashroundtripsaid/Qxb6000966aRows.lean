/-
  No cell of these rows narrows 'for every input' (looked for: loops, veiled, ifaces, maps, wideKeys, modest, calm, conditions, laid).
  DERIVED. THE GIVEN ROWS OF THIS SEAT. 2 by the template 'for every input the law returns true; each argument reads behind the call as it read before'; 0 by the template 'total and deterministic' (their statements: Qxb6000966aTotals.lean).
  GIVEN WITH THE SEED: the statements are not yours to turn. If you find one false, say at which input.
  Laid BY PROGRAM, IN A SANDBOX (cutbox-rows.mjs): the forced cells as the released guide's own fill.sh prints them over the translation 0bee63aea81ab69b… (all of the seat's roots in one cut). By AI agents, Wed Nov 11 2026. No macro, syntax, notation, axiom, sorry.
-/
import Derived.Test.Qxb6000966aChecked
import GoSem.Claim
import GoSem.ClaimJoined
import GoSem.ClaimMapViews
import Derived.JoinedTies
import Derived.KernelRfl
namespace Go.Proofs.Qxb6000966a
/- THE CELL 'sum', in the pinned program and in every row, IS THE sha256 OF THE DUMP (.gsa) THAT Qxb6000966aProg.lean LOADS. Nothing in Lean hashes anything: it is a label: what it is worth is what the hold of that sum in a sandbox is worth. -/
noncomputable def Try.pinned : Pinned := { name := "qxb6000966a", sum := "0bee63aea81ab69b0481178166dafebc7f90afb7393b882f157c59490bc15171", checked := Try.checked }
namespace Rows
def none {H : Type} : Left H := { results := [], args := [] }

/-- 'zzlaws_instruction_b1.FnAnswerUndashRoundTrip': WHATEVER THE INPUT: true; the input reads as it did. -/
def fnAnswerUndashRoundTripSpec : ChangeSpec := { name := "fnAnswerUndashRoundTrip", fn := fun _ => fun
  | [d1, d2, d3, d4, d5, d6, d7, d8, d9, d10, d11, d12] => { results := [.lit (.bool true)], args := [d1, d2, d3, d4, d5, d6, d7, d8, d9, d10, d11, d12] }
  | _ => none }
def fnAnswerUndashRoundTripRow : OpenClaim := { program := "qxb6000966a", sum := "0bee63aea81ab69b0481178166dafebc7f90afb7393b882f157c59490bc15171", func := "example.com/tuoguan/tuoguan/zzlaws_instruction_b1.FnAnswerUndashRoundTrip", spec := "fnAnswerUndashRoundTrip", apart := false }
def FnAnswerUndashRoundTripSaid : Prop := fnAnswerUndashRoundTripRow.holds Try.pinned (OpenSpec.ofChange fnAnswerUndashRoundTripSpec)

/-- ITS FALSE NEIGHBOUR: 'it returns false'. Refute it at one input. -/
def fnAnswerUndashRoundTripWrong : ChangeSpec := { name := "fnAnswerUndashRoundTrip", fn := fun _ => fun
  | [d1, d2, d3, d4, d5, d6, d7, d8, d9, d10, d11, d12] => { results := [.lit (.bool false)], args := [d1, d2, d3, d4, d5, d6, d7, d8, d9, d10, d11, d12] }
  | _ => none }
def FnAnswerUndashRoundTripWrongFalsely : Prop := fnAnswerUndashRoundTripRow.holds Try.pinned (OpenSpec.ofChange fnAnswerUndashRoundTripWrong)

/-- 'zzlaws_instruction_b1.FnAnswerIgnoresFirstIdentity': WHATEVER THE INPUT: true; the input reads as it did. -/
def fnAnswerIgnoresFirstIdentitySpec : ChangeSpec := { name := "fnAnswerIgnoresFirstIdentity", fn := fun _ => fun
  | [d1, d2, d3, d4, d5, d6, d7, d8, d9, d10, d11, d12] => { results := [.lit (.bool true)], args := [d1, d2, d3, d4, d5, d6, d7, d8, d9, d10, d11, d12] }
  | _ => none }
def fnAnswerIgnoresFirstIdentityRow : OpenClaim := { program := "qxb6000966a", sum := "0bee63aea81ab69b0481178166dafebc7f90afb7393b882f157c59490bc15171", func := "example.com/tuoguan/tuoguan/zzlaws_instruction_b1.FnAnswerIgnoresFirstIdentity", spec := "fnAnswerIgnoresFirstIdentity", apart := false }
def FnAnswerIgnoresFirstIdentitySaid : Prop := fnAnswerIgnoresFirstIdentityRow.holds Try.pinned (OpenSpec.ofChange fnAnswerIgnoresFirstIdentitySpec)

/-- ITS FALSE NEIGHBOUR: 'it returns false'. Refute it at one input. -/
def fnAnswerIgnoresFirstIdentityWrong : ChangeSpec := { name := "fnAnswerIgnoresFirstIdentity", fn := fun _ => fun
  | [d1, d2, d3, d4, d5, d6, d7, d8, d9, d10, d11, d12] => { results := [.lit (.bool false)], args := [d1, d2, d3, d4, d5, d6, d7, d8, d9, d10, d11, d12] }
  | _ => none }
def FnAnswerIgnoresFirstIdentityWrongFalsely : Prop := fnAnswerIgnoresFirstIdentityRow.holds Try.pinned (OpenSpec.ofChange fnAnswerIgnoresFirstIdentityWrong)

end Rows
end Go.Proofs.Qxb6000966a
