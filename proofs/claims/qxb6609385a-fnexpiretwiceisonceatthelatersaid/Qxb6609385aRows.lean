/-
  No cell of these rows narrows 'for every input' (looked for: loops, veiled, ifaces, maps, wideKeys, modest, calm, conditions, laid).
  DERIVED. THE GIVEN ROWS OF THIS SEAT. 3 by the template 'for every input the law returns true; each argument reads behind the call as it read before'; 0 by the template 'total and deterministic' (their statements: Qxb6609385aTotals.lean).
  GIVEN WITH THE SEED: the statements are not yours to turn. If you find one false, say at which input.
  Laid BY PROGRAM, IN A SANDBOX (cutbox-rows.mjs): the forced cells as the released guide's own fill.sh prints them over the translation 4822adda99787736… (all of the seat's roots in one cut). By AI agents, Wed Nov 11 2026. No macro, syntax, notation, axiom, sorry.
-/
import Derived.Test.Qxb6609385aChecked
import GoSem.Claim
import GoSem.ClaimJoined
import GoSem.ClaimMapViews
import Derived.JoinedTies
import Derived.KernelRfl
namespace Go.Proofs.Qxb6609385a
/- THE CELL 'sum', in the pinned program and in every row, IS THE sha256 OF THE DUMP (.gsa) THAT Qxb6609385aProg.lean LOADS. Nothing in Lean hashes anything: it is a label: what it is worth is what the hold of that sum in a sandbox is worth. -/
noncomputable def Try.pinned : Pinned := { name := "qxb6609385a", sum := "4822adda99787736bc258b71d2a322dae873200d9eab1d460c4d5e6c7c88ac80", checked := Try.checked }
namespace Rows
def none {H : Type} : Left H := { results := [], args := [] }

/-- 'zzlaws_internal_aws_awstest_b1.FnNewExpressionsGivesEachCallItsOwnMarks': WHATEVER THE INPUT: true; the input reads as it did. -/
def fnNewExpressionsGivesEachCallItsOwnMarksSpec : ChangeSpec := { name := "fnNewExpressionsGivesEachCallItsOwnMarks", fn := fun _ => fun
  | [d1, d2, d3] => { results := [.lit (.bool true)], args := [d1, d2, d3] }
  | _ => none }
def fnNewExpressionsGivesEachCallItsOwnMarksRow : OpenClaim := { program := "qxb6609385a", sum := "4822adda99787736bc258b71d2a322dae873200d9eab1d460c4d5e6c7c88ac80", func := "example.com/runnerpool/runnerpool/zzlaws_internal_aws_awstest_b1.FnNewExpressionsGivesEachCallItsOwnMarks", spec := "fnNewExpressionsGivesEachCallItsOwnMarks", apart := false }
def FnNewExpressionsGivesEachCallItsOwnMarksSaid : Prop := fnNewExpressionsGivesEachCallItsOwnMarksRow.holds Try.pinned (OpenSpec.ofChange fnNewExpressionsGivesEachCallItsOwnMarksSpec)

/-- ITS FALSE NEIGHBOUR: 'it returns false'. Refute it at one input. -/
def fnNewExpressionsGivesEachCallItsOwnMarksWrong : ChangeSpec := { name := "fnNewExpressionsGivesEachCallItsOwnMarks", fn := fun _ => fun
  | [d1, d2, d3] => { results := [.lit (.bool false)], args := [d1, d2, d3] }
  | _ => none }
def FnNewExpressionsGivesEachCallItsOwnMarksWrongFalsely : Prop := fnNewExpressionsGivesEachCallItsOwnMarksRow.holds Try.pinned (OpenSpec.ofChange fnNewExpressionsGivesEachCallItsOwnMarksWrong)

/-- 'zzlaws_internal_aws_awstest_b1.FnExpireKeepsExactlyTheYoung': WHATEVER THE INPUT: true; the input reads as it did. -/
def fnExpireKeepsExactlyTheYoungSpec : ChangeSpec := { name := "fnExpireKeepsExactlyTheYoung", fn := fun _ => fun
  | [d1, d2, d3] => { results := [.lit (.bool true)], args := [d1, d2, d3] }
  | _ => none }
def fnExpireKeepsExactlyTheYoungRow : OpenClaim := { program := "qxb6609385a", sum := "4822adda99787736bc258b71d2a322dae873200d9eab1d460c4d5e6c7c88ac80", func := "example.com/runnerpool/runnerpool/zzlaws_internal_aws_awstest_b1.FnExpireKeepsExactlyTheYoung", spec := "fnExpireKeepsExactlyTheYoung", unfollowed := true, recurses := true, apart := false }
def FnExpireKeepsExactlyTheYoungSaid : Prop := fnExpireKeepsExactlyTheYoungRow.holds Try.pinned (OpenSpec.ofChange fnExpireKeepsExactlyTheYoungSpec)

/-- ITS FALSE NEIGHBOUR: 'it returns false'. Refute it at one input. -/
def fnExpireKeepsExactlyTheYoungWrong : ChangeSpec := { name := "fnExpireKeepsExactlyTheYoung", fn := fun _ => fun
  | [d1, d2, d3] => { results := [.lit (.bool false)], args := [d1, d2, d3] }
  | _ => none }
def FnExpireKeepsExactlyTheYoungWrongFalsely : Prop := fnExpireKeepsExactlyTheYoungRow.holds Try.pinned (OpenSpec.ofChange fnExpireKeepsExactlyTheYoungWrong)

/-- 'zzlaws_internal_aws_awstest_b1.FnExpireTwiceIsOnceAtTheLater': WHATEVER THE INPUT: true; the input reads as it did. -/
def fnExpireTwiceIsOnceAtTheLaterSpec : ChangeSpec := { name := "fnExpireTwiceIsOnceAtTheLater", fn := fun _ => fun
  | [d1, d2, d3, d4] => { results := [.lit (.bool true)], args := [d1, d2, d3, d4] }
  | _ => none }
def fnExpireTwiceIsOnceAtTheLaterRow : OpenClaim := { program := "qxb6609385a", sum := "4822adda99787736bc258b71d2a322dae873200d9eab1d460c4d5e6c7c88ac80", func := "example.com/runnerpool/runnerpool/zzlaws_internal_aws_awstest_b1.FnExpireTwiceIsOnceAtTheLater", spec := "fnExpireTwiceIsOnceAtTheLater", unfollowed := true, recurses := true, apart := false }
def FnExpireTwiceIsOnceAtTheLaterSaid : Prop := fnExpireTwiceIsOnceAtTheLaterRow.holds Try.pinned (OpenSpec.ofChange fnExpireTwiceIsOnceAtTheLaterSpec)

/-- ITS FALSE NEIGHBOUR: 'it returns false'. Refute it at one input. -/
def fnExpireTwiceIsOnceAtTheLaterWrong : ChangeSpec := { name := "fnExpireTwiceIsOnceAtTheLater", fn := fun _ => fun
  | [d1, d2, d3, d4] => { results := [.lit (.bool false)], args := [d1, d2, d3, d4] }
  | _ => none }
def FnExpireTwiceIsOnceAtTheLaterWrongFalsely : Prop := fnExpireTwiceIsOnceAtTheLaterRow.holds Try.pinned (OpenSpec.ofChange fnExpireTwiceIsOnceAtTheLaterWrong)

end Rows
end Go.Proofs.Qxb6609385a
