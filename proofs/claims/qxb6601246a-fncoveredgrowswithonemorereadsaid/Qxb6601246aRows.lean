/-
  No cell of these rows narrows 'for every input' (looked for: loops, veiled, ifaces, maps, wideKeys, modest, calm, conditions, laid).
  DERIVED. THE GIVEN ROWS OF THIS SEAT. 5 by the template 'for every input the law returns true; each argument reads behind the call as it read before'; 0 by the template 'total and deterministic' (their statements: Qxb6601246aTotals.lean).
  GIVEN WITH THE SEED: the statements are not yours to turn. If you find one false, say at which input.
  Laid BY PROGRAM, IN A SANDBOX (cutbox-rows.mjs): the forced cells as the released guide's own fill.sh prints them over the translation f25a316ba5221c7c… (all of the seat's roots in one cut). By AI agents, Wed Nov 11 2026. No macro, syntax, notation, axiom, sorry.
-/
import Derived.Test.Qxb6601246aChecked
import GoSem.Claim
import GoSem.ClaimJoined
import GoSem.ClaimMapViews
import Derived.JoinedTies
import Derived.KernelRfl
namespace Go.Proofs.Qxb6601246a
/- THE CELL 'sum', in the pinned program and in every row, IS THE sha256 OF THE DUMP (.gsa) THAT Qxb6601246aProg.lean LOADS. Nothing in Lean hashes anything: it is a label: what it is worth is what the hold of that sum in a sandbox is worth. -/
noncomputable def Try.pinned : Pinned := { name := "qxb6601246a", sum := "f25a316ba5221c7c37e694c7f37f910818879a5a2695c5c8141414eaa73b031a", checked := Try.checked }
namespace Rows
def none {H : Type} : Left H := { results := [], args := [] }

/-- 'zzlaws_internal_rule_b1.FnLaterEndIsLeastUpperBound': WHATEVER THE INPUT: true; the input reads as it did. -/
def fnLaterEndIsLeastUpperBoundSpec : ChangeSpec := { name := "fnLaterEndIsLeastUpperBound", fn := fun _ => fun
  | [d1, d2] => { results := [.lit (.bool true)], args := [d1, d2] }
  | _ => none }
def fnLaterEndIsLeastUpperBoundRow : OpenClaim := { program := "qxb6601246a", sum := "f25a316ba5221c7c37e694c7f37f910818879a5a2695c5c8141414eaa73b031a", func := "example.com/commitgate/commitgate/zzlaws_internal_rule_b1.FnLaterEndIsLeastUpperBound", spec := "fnLaterEndIsLeastUpperBound", apart := false }
def FnLaterEndIsLeastUpperBoundSaid : Prop := fnLaterEndIsLeastUpperBoundRow.holds Try.pinned (OpenSpec.ofChange fnLaterEndIsLeastUpperBoundSpec)

/-- ITS FALSE NEIGHBOUR: 'it returns false'. Refute it at one input. -/
def fnLaterEndIsLeastUpperBoundWrong : ChangeSpec := { name := "fnLaterEndIsLeastUpperBound", fn := fun _ => fun
  | [d1, d2] => { results := [.lit (.bool false)], args := [d1, d2] }
  | _ => none }
def FnLaterEndIsLeastUpperBoundWrongFalsely : Prop := fnLaterEndIsLeastUpperBoundRow.holds Try.pinned (OpenSpec.ofChange fnLaterEndIsLeastUpperBoundWrong)

/-- 'zzlaws_internal_rule_b1.FnLaterEndSemilattice': WHATEVER THE INPUT: true; the input reads as it did. -/
def fnLaterEndSemilatticeSpec : ChangeSpec := { name := "fnLaterEndSemilattice", fn := fun _ => fun
  | [d1, d2, d3] => { results := [.lit (.bool true)], args := [d1, d2, d3] }
  | _ => none }
def fnLaterEndSemilatticeRow : OpenClaim := { program := "qxb6601246a", sum := "f25a316ba5221c7c37e694c7f37f910818879a5a2695c5c8141414eaa73b031a", func := "example.com/commitgate/commitgate/zzlaws_internal_rule_b1.FnLaterEndSemilattice", spec := "fnLaterEndSemilattice", apart := false }
def FnLaterEndSemilatticeSaid : Prop := fnLaterEndSemilatticeRow.holds Try.pinned (OpenSpec.ofChange fnLaterEndSemilatticeSpec)

/-- ITS FALSE NEIGHBOUR: 'it returns false'. Refute it at one input. -/
def fnLaterEndSemilatticeWrong : ChangeSpec := { name := "fnLaterEndSemilattice", fn := fun _ => fun
  | [d1, d2, d3] => { results := [.lit (.bool false)], args := [d1, d2, d3] }
  | _ => none }
def FnLaterEndSemilatticeWrongFalsely : Prop := fnLaterEndSemilatticeRow.holds Try.pinned (OpenSpec.ofChange fnLaterEndSemilatticeWrong)

/-- 'zzlaws_internal_rule_b1.FnCoveredSpec': WHATEVER THE INPUT: true; the input reads as it did. -/
def fnCoveredSpecSpec : ChangeSpec := { name := "fnCoveredSpec", fn := fun _ => fun
  | [d1, d2, d3, d4, d5] => { results := [.lit (.bool true)], args := [d1, d2, d3, d4, d5] }
  | _ => none }
def fnCoveredSpecRow : OpenClaim := { program := "qxb6601246a", sum := "f25a316ba5221c7c37e694c7f37f910818879a5a2695c5c8141414eaa73b031a", func := "example.com/commitgate/commitgate/zzlaws_internal_rule_b1.FnCoveredSpec", spec := "fnCoveredSpec", apart := false }
def FnCoveredSpecSaid : Prop := fnCoveredSpecRow.holds Try.pinned (OpenSpec.ofChange fnCoveredSpecSpec)

/-- ITS FALSE NEIGHBOUR: 'it returns false'. Refute it at one input. -/
def fnCoveredSpecWrong : ChangeSpec := { name := "fnCoveredSpec", fn := fun _ => fun
  | [d1, d2, d3, d4, d5] => { results := [.lit (.bool false)], args := [d1, d2, d3, d4, d5] }
  | _ => none }
def FnCoveredSpecWrongFalsely : Prop := fnCoveredSpecRow.holds Try.pinned (OpenSpec.ofChange fnCoveredSpecWrong)

/-- 'zzlaws_internal_rule_b1.FnCoveredGrowsWithOneMoreRead': WHATEVER THE INPUT: true; the input reads as it did. -/
def fnCoveredGrowsWithOneMoreReadSpec : ChangeSpec := { name := "fnCoveredGrowsWithOneMoreRead", fn := fun _ => fun
  | [d1, d2, d3, d4, d5, d6] => { results := [.lit (.bool true)], args := [d1, d2, d3, d4, d5, d6] }
  | _ => none }
def fnCoveredGrowsWithOneMoreReadRow : OpenClaim := { program := "qxb6601246a", sum := "f25a316ba5221c7c37e694c7f37f910818879a5a2695c5c8141414eaa73b031a", func := "example.com/commitgate/commitgate/zzlaws_internal_rule_b1.FnCoveredGrowsWithOneMoreRead", spec := "fnCoveredGrowsWithOneMoreRead", apart := false }
def FnCoveredGrowsWithOneMoreReadSaid : Prop := fnCoveredGrowsWithOneMoreReadRow.holds Try.pinned (OpenSpec.ofChange fnCoveredGrowsWithOneMoreReadSpec)

/-- ITS FALSE NEIGHBOUR: 'it returns false'. Refute it at one input. -/
def fnCoveredGrowsWithOneMoreReadWrong : ChangeSpec := { name := "fnCoveredGrowsWithOneMoreRead", fn := fun _ => fun
  | [d1, d2, d3, d4, d5, d6] => { results := [.lit (.bool false)], args := [d1, d2, d3, d4, d5, d6] }
  | _ => none }
def FnCoveredGrowsWithOneMoreReadWrongFalsely : Prop := fnCoveredGrowsWithOneMoreReadRow.holds Try.pinned (OpenSpec.ofChange fnCoveredGrowsWithOneMoreReadWrong)

/-- 'zzlaws_internal_rule_b1.FnCoveredFinishingNeverShrinks': WHATEVER THE INPUT: true; the input reads as it did. -/
def fnCoveredFinishingNeverShrinksSpec : ChangeSpec := { name := "fnCoveredFinishingNeverShrinks", fn := fun _ => fun
  | [d1, d2, d3, d4] => { results := [.lit (.bool true)], args := [d1, d2, d3, d4] }
  | _ => none }
def fnCoveredFinishingNeverShrinksRow : OpenClaim := { program := "qxb6601246a", sum := "f25a316ba5221c7c37e694c7f37f910818879a5a2695c5c8141414eaa73b031a", func := "example.com/commitgate/commitgate/zzlaws_internal_rule_b1.FnCoveredFinishingNeverShrinks", spec := "fnCoveredFinishingNeverShrinks", apart := false }
def FnCoveredFinishingNeverShrinksSaid : Prop := fnCoveredFinishingNeverShrinksRow.holds Try.pinned (OpenSpec.ofChange fnCoveredFinishingNeverShrinksSpec)

/-- ITS FALSE NEIGHBOUR: 'it returns false'. Refute it at one input. -/
def fnCoveredFinishingNeverShrinksWrong : ChangeSpec := { name := "fnCoveredFinishingNeverShrinks", fn := fun _ => fun
  | [d1, d2, d3, d4] => { results := [.lit (.bool false)], args := [d1, d2, d3, d4] }
  | _ => none }
def FnCoveredFinishingNeverShrinksWrongFalsely : Prop := fnCoveredFinishingNeverShrinksRow.holds Try.pinned (OpenSpec.ofChange fnCoveredFinishingNeverShrinksWrong)

end Rows
end Go.Proofs.Qxb6601246a
