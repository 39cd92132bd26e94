/-
  No cell of these rows narrows 'for every input' (looked for: loops, veiled, ifaces, maps, wideKeys, modest, calm, conditions, laid).
  DERIVED. THE GIVEN ROWS OF THIS SEAT. 4 by the template 'for every input the law returns true; each argument reads behind the call as it read before'; 0 by the template 'total and deterministic' (their statements: Qxb6601539aTotals.lean).
  GIVEN WITH THE SEED: the statements are not yours to turn. If you find one false, say at which input.
  Laid BY PROGRAM, IN A SANDBOX (cutbox-rows.mjs): the forced cells as the released guide's own fill.sh prints them over the translation 1b3627111eb3fec1… (all of the seat's roots in one cut). By AI agents, Wed Nov 11 2026. No macro, syntax, notation, axiom, sorry.
-/
import Derived.Test.Qxb6601539aChecked
import GoSem.Claim
import GoSem.ClaimJoined
import GoSem.ClaimMapViews
import Derived.JoinedTies
import Derived.KernelRfl
namespace Go.Proofs.Qxb6601539a
/- THE CELL 'sum', in the pinned program and in every row, IS THE sha256 OF THE DUMP (.gsa) THAT Qxb6601539aProg.lean LOADS. Nothing in Lean hashes anything: it is a label: what it is worth is what the hold of that sum in a sandbox is worth. -/
noncomputable def Try.pinned : Pinned := { name := "qxb6601539a", sum := "1b3627111eb3fec1b8f0c5bb13fce1fcb13843c6cd0aeaa57dd6fe263b881c61", checked := Try.checked }
namespace Rows
def none {H : Type} : Left H := { results := [], args := [] }

/-- 'zzlaws_apdu_b1.FnShortNeIsTheUniqueCountWithThisByte': WHATEVER THE INPUT: true; the input reads as it did. -/
def fnShortNeIsTheUniqueCountWithThisByteSpec : ChangeSpec := { name := "fnShortNeIsTheUniqueCountWithThisByte", fn := fun _ => fun
  | [d] => { results := [.lit (.bool true)], args := [d] }
  | _ => none }
def fnShortNeIsTheUniqueCountWithThisByteRow : OpenClaim := { program := "qxb6601539a", sum := "1b3627111eb3fec1b8f0c5bb13fce1fcb13843c6cd0aeaa57dd6fe263b881c61", func := "example.com/chipfolio/chipfolio/zzlaws_apdu_b1.FnShortNeIsTheUniqueCountWithThisByte", spec := "fnShortNeIsTheUniqueCountWithThisByte", apart := false }
def FnShortNeIsTheUniqueCountWithThisByteSaid : Prop := fnShortNeIsTheUniqueCountWithThisByteRow.holds Try.pinned (OpenSpec.ofChange fnShortNeIsTheUniqueCountWithThisByteSpec)

/-- ITS FALSE NEIGHBOUR: 'it returns false'. Refute it at one input. -/
def fnShortNeIsTheUniqueCountWithThisByteWrong : ChangeSpec := { name := "fnShortNeIsTheUniqueCountWithThisByte", fn := fun _ => fun
  | [d] => { results := [.lit (.bool false)], args := [d] }
  | _ => none }
def FnShortNeIsTheUniqueCountWithThisByteWrongFalsely : Prop := fnShortNeIsTheUniqueCountWithThisByteRow.holds Try.pinned (OpenSpec.ofChange fnShortNeIsTheUniqueCountWithThisByteWrong)

/-- 'zzlaws_apdu_b1.FnShortNeInvertsTheOneByteEncoding': WHATEVER THE INPUT: true; the input reads as it did. -/
def fnShortNeInvertsTheOneByteEncodingSpec : ChangeSpec := { name := "fnShortNeInvertsTheOneByteEncoding", fn := fun _ => fun
  | [d] => { results := [.lit (.bool true)], args := [d] }
  | _ => none }
def fnShortNeInvertsTheOneByteEncodingRow : OpenClaim := { program := "qxb6601539a", sum := "1b3627111eb3fec1b8f0c5bb13fce1fcb13843c6cd0aeaa57dd6fe263b881c61", func := "example.com/chipfolio/chipfolio/zzlaws_apdu_b1.FnShortNeInvertsTheOneByteEncoding", spec := "fnShortNeInvertsTheOneByteEncoding", apart := false }
def FnShortNeInvertsTheOneByteEncodingSaid : Prop := fnShortNeInvertsTheOneByteEncodingRow.holds Try.pinned (OpenSpec.ofChange fnShortNeInvertsTheOneByteEncodingSpec)

/-- ITS FALSE NEIGHBOUR: 'it returns false'. Refute it at one input. -/
def fnShortNeInvertsTheOneByteEncodingWrong : ChangeSpec := { name := "fnShortNeInvertsTheOneByteEncoding", fn := fun _ => fun
  | [d] => { results := [.lit (.bool false)], args := [d] }
  | _ => none }
def FnShortNeInvertsTheOneByteEncodingWrongFalsely : Prop := fnShortNeInvertsTheOneByteEncodingRow.holds Try.pinned (OpenSpec.ofChange fnShortNeInvertsTheOneByteEncodingWrong)

/-- 'zzlaws_apdu_b1.FnExtendedNeIsTheUniqueCountWithTheseTwoBytes': WHATEVER THE INPUT: true; the input reads as it did. -/
def fnExtendedNeIsTheUniqueCountWithTheseTwoBytesSpec : ChangeSpec := { name := "fnExtendedNeIsTheUniqueCountWithTheseTwoBytes", fn := fun _ => fun
  | [d] => { results := [.lit (.bool true)], args := [d] }
  | _ => none }
def fnExtendedNeIsTheUniqueCountWithTheseTwoBytesRow : OpenClaim := { program := "qxb6601539a", sum := "1b3627111eb3fec1b8f0c5bb13fce1fcb13843c6cd0aeaa57dd6fe263b881c61", func := "example.com/chipfolio/chipfolio/zzlaws_apdu_b1.FnExtendedNeIsTheUniqueCountWithTheseTwoBytes", spec := "fnExtendedNeIsTheUniqueCountWithTheseTwoBytes", apart := false }
def FnExtendedNeIsTheUniqueCountWithTheseTwoBytesSaid : Prop := fnExtendedNeIsTheUniqueCountWithTheseTwoBytesRow.holds Try.pinned (OpenSpec.ofChange fnExtendedNeIsTheUniqueCountWithTheseTwoBytesSpec)

/-- ITS FALSE NEIGHBOUR: 'it returns false'. Refute it at one input. -/
def fnExtendedNeIsTheUniqueCountWithTheseTwoBytesWrong : ChangeSpec := { name := "fnExtendedNeIsTheUniqueCountWithTheseTwoBytes", fn := fun _ => fun
  | [d] => { results := [.lit (.bool false)], args := [d] }
  | _ => none }
def FnExtendedNeIsTheUniqueCountWithTheseTwoBytesWrongFalsely : Prop := fnExtendedNeIsTheUniqueCountWithTheseTwoBytesRow.holds Try.pinned (OpenSpec.ofChange fnExtendedNeIsTheUniqueCountWithTheseTwoBytesWrong)

/-- 'zzlaws_apdu_b1.FnExtendedNeInvertsTheTwoByteEncoding': WHATEVER THE INPUT: true; the input reads as it did. -/
def fnExtendedNeInvertsTheTwoByteEncodingSpec : ChangeSpec := { name := "fnExtendedNeInvertsTheTwoByteEncoding", fn := fun _ => fun
  | [d] => { results := [.lit (.bool true)], args := [d] }
  | _ => none }
def fnExtendedNeInvertsTheTwoByteEncodingRow : OpenClaim := { program := "qxb6601539a", sum := "1b3627111eb3fec1b8f0c5bb13fce1fcb13843c6cd0aeaa57dd6fe263b881c61", func := "example.com/chipfolio/chipfolio/zzlaws_apdu_b1.FnExtendedNeInvertsTheTwoByteEncoding", spec := "fnExtendedNeInvertsTheTwoByteEncoding", apart := false }
def FnExtendedNeInvertsTheTwoByteEncodingSaid : Prop := fnExtendedNeInvertsTheTwoByteEncodingRow.holds Try.pinned (OpenSpec.ofChange fnExtendedNeInvertsTheTwoByteEncodingSpec)

/-- ITS FALSE NEIGHBOUR: 'it returns false'. Refute it at one input. -/
def fnExtendedNeInvertsTheTwoByteEncodingWrong : ChangeSpec := { name := "fnExtendedNeInvertsTheTwoByteEncoding", fn := fun _ => fun
  | [d] => { results := [.lit (.bool false)], args := [d] }
  | _ => none }
def FnExtendedNeInvertsTheTwoByteEncodingWrongFalsely : Prop := fnExtendedNeInvertsTheTwoByteEncodingRow.holds Try.pinned (OpenSpec.ofChange fnExtendedNeInvertsTheTwoByteEncodingWrong)

end Rows
end Go.Proofs.Qxb6601539a
