/-
  No cell of these rows narrows 'for every input' (looked for: loops, veiled, ifaces, maps, wideKeys, modest, calm, conditions, laid).
  DERIVED. THE GIVEN ROWS OF THIS SEAT. 3 by the template 'for every input the law returns true; each argument reads behind the call as it read before'; 0 by the template 'total and deterministic' (their statements: Qxb6602370aTotals.lean).
  GIVEN WITH THE SEED: the statements are not yours to turn. If you find one false, say at which input.
  Laid BY PROGRAM, IN A SANDBOX (cutbox-rows.mjs): the forced cells as the released guide's own fill.sh prints them over the translation 059d95c0c0b56899… (all of the seat's roots in one cut). By AI agents, Wed Nov 11 2026. No macro, syntax, notation, axiom, sorry.
-/
import Derived.Test.Qxb6602370aChecked
import GoSem.Claim
import GoSem.ClaimJoined
import GoSem.ClaimMapViews
import Derived.JoinedTies
import Derived.KernelRfl
namespace Go.Proofs.Qxb6602370a
/- THE CELL 'sum', in the pinned program and in every row, IS THE sha256 OF THE DUMP (.gsa) THAT Qxb6602370aProg.lean LOADS. Nothing in Lean hashes anything: it is a label: what it is worth is what the hold of that sum in a sandbox is worth. -/
noncomputable def Try.pinned : Pinned := { name := "qxb6602370a", sum := "059d95c0c0b56899890fd4d37f4d124f601c914198f4b7b07f671c67415687ce", checked := Try.checked }
namespace Rows
def none {H : Type} : Left H := { results := [], args := [] }

/-- 'zzlaws_internal_robots_b1.FnMatchesAgreesWithNFA': WHATEVER THE INPUT: true; the input reads as it did. -/
def fnMatchesAgreesWithNFASpec : ChangeSpec := { name := "fnMatchesAgreesWithNFA", fn := fun _ => fun
  | [d1, d2, d3] => { results := [.lit (.bool true)], args := [d1, d2, d3] }
  | _ => none }
def fnMatchesAgreesWithNFARow : OpenClaim := { program := "qxb6602370a", sum := "059d95c0c0b56899890fd4d37f4d124f601c914198f4b7b07f671c67415687ce", func := "example.com/tidewatch/tidewatch/zzlaws_internal_robots_b1.FnMatchesAgreesWithNFA", spec := "fnMatchesAgreesWithNFA", apart := false }
def FnMatchesAgreesWithNFASaid : Prop := fnMatchesAgreesWithNFARow.holds Try.pinned (OpenSpec.ofChange fnMatchesAgreesWithNFASpec)

/-- ITS FALSE NEIGHBOUR: 'it returns false'. Refute it at one input. -/
def fnMatchesAgreesWithNFAWrong : ChangeSpec := { name := "fnMatchesAgreesWithNFA", fn := fun _ => fun
  | [d1, d2, d3] => { results := [.lit (.bool false)], args := [d1, d2, d3] }
  | _ => none }
def FnMatchesAgreesWithNFAWrongFalsely : Prop := fnMatchesAgreesWithNFARow.holds Try.pinned (OpenSpec.ofChange fnMatchesAgreesWithNFAWrong)

/-- 'zzlaws_internal_robots_b1.FnMatchesUnanchoredKeepsUnderExtension': WHATEVER THE INPUT: true; the input reads as it did. -/
def fnMatchesUnanchoredKeepsUnderExtensionSpec : ChangeSpec := { name := "fnMatchesUnanchoredKeepsUnderExtension", fn := fun _ => fun
  | [d1, d2, d3, d4] => { results := [.lit (.bool true)], args := [d1, d2, d3, d4] }
  | _ => none }
def fnMatchesUnanchoredKeepsUnderExtensionRow : OpenClaim := { program := "qxb6602370a", sum := "059d95c0c0b56899890fd4d37f4d124f601c914198f4b7b07f671c67415687ce", func := "example.com/tidewatch/tidewatch/zzlaws_internal_robots_b1.FnMatchesUnanchoredKeepsUnderExtension", spec := "fnMatchesUnanchoredKeepsUnderExtension", apart := false }
def FnMatchesUnanchoredKeepsUnderExtensionSaid : Prop := fnMatchesUnanchoredKeepsUnderExtensionRow.holds Try.pinned (OpenSpec.ofChange fnMatchesUnanchoredKeepsUnderExtensionSpec)

/-- ITS FALSE NEIGHBOUR: 'it returns false'. Refute it at one input. -/
def fnMatchesUnanchoredKeepsUnderExtensionWrong : ChangeSpec := { name := "fnMatchesUnanchoredKeepsUnderExtension", fn := fun _ => fun
  | [d1, d2, d3, d4] => { results := [.lit (.bool false)], args := [d1, d2, d3, d4] }
  | _ => none }
def FnMatchesUnanchoredKeepsUnderExtensionWrongFalsely : Prop := fnMatchesUnanchoredKeepsUnderExtensionRow.holds Try.pinned (OpenSpec.ofChange fnMatchesUnanchoredKeepsUnderExtensionWrong)

/-- 'zzlaws_internal_robots_b1.FnMatchesTrailingStarChangesNothing': WHATEVER THE INPUT: true; the input reads as it did. -/
def fnMatchesTrailingStarChangesNothingSpec : ChangeSpec := { name := "fnMatchesTrailingStarChangesNothing", fn := fun _ => fun
  | [d1, d2, d3] => { results := [.lit (.bool true)], args := [d1, d2, d3] }
  | _ => none }
def fnMatchesTrailingStarChangesNothingRow : OpenClaim := { program := "qxb6602370a", sum := "059d95c0c0b56899890fd4d37f4d124f601c914198f4b7b07f671c67415687ce", func := "example.com/tidewatch/tidewatch/zzlaws_internal_robots_b1.FnMatchesTrailingStarChangesNothing", spec := "fnMatchesTrailingStarChangesNothing", apart := false }
def FnMatchesTrailingStarChangesNothingSaid : Prop := fnMatchesTrailingStarChangesNothingRow.holds Try.pinned (OpenSpec.ofChange fnMatchesTrailingStarChangesNothingSpec)

/-- ITS FALSE NEIGHBOUR: 'it returns false'. Refute it at one input. -/
def fnMatchesTrailingStarChangesNothingWrong : ChangeSpec := { name := "fnMatchesTrailingStarChangesNothing", fn := fun _ => fun
  | [d1, d2, d3] => { results := [.lit (.bool false)], args := [d1, d2, d3] }
  | _ => none }
def FnMatchesTrailingStarChangesNothingWrongFalsely : Prop := fnMatchesTrailingStarChangesNothingRow.holds Try.pinned (OpenSpec.ofChange fnMatchesTrailingStarChangesNothingWrong)

end Rows
end Go.Proofs.Qxb6602370a
