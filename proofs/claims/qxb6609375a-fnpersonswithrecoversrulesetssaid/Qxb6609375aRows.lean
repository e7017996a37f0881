/-
  No cell of these rows narrows 'for every input' (looked for: loops, veiled, ifaces, maps, wideKeys, modest, calm, conditions, laid).
  DERIVED. THE GIVEN ROWS OF THIS SEAT. 1 by the template 'for every input the law returns true; each argument reads behind the call as it read before'; 0 by the template 'total and deterministic' (their statements: Qxb6609375aTotals.lean).
  GIVEN WITH THE SEED: the statements are not yours to turn. If you find one false, say at which input.
  Laid BY PROGRAM, IN A SANDBOX (cutbox-rows.mjs): the forced cells as the released guide's own fill.sh prints them over the translation aa8f3bbbdb186e14… (all of the seat's roots in one cut). By AI agents, Wed Nov 11 2026. No macro, syntax, notation, axiom, sorry.
-/
import Derived.Test.Qxb6609375aChecked
import GoSem.Claim
import GoSem.ClaimJoined
import GoSem.ClaimMapViews
import Derived.JoinedTies
import Derived.KernelRfl
namespace Go.Proofs.Qxb6609375a
/- THE CELL 'sum', in the pinned program and in every row, IS THE sha256 OF THE DUMP (.gsa) THAT Qxb6609375aProg.lean LOADS. Nothing in Lean hashes anything: it is a label: what it is worth is what the hold of that sum in a sandbox is worth. -/
noncomputable def Try.pinned : Pinned := { name := "qxb6609375a", sum := "aa8f3bbbdb186e14f73c3631b618890cf621133f71b040604e21d4f37db651dc", checked := Try.checked }
namespace Rows
def none {H : Type} : Left H := { results := [], args := [] }

/-- 'zzlaws_pkg_related_b1.FnPersonsWithRecoversRuleSets': WHATEVER THE INPUT: true; the input reads as it did. -/
def fnPersonsWithRecoversRuleSetsSpec : ChangeSpec := { name := "fnPersonsWithRecoversRuleSets", fn := fun _ => fun
  | [d1, d2] => { results := [.lit (.bool true)], args := [d1, d2] }
  | _ => none }
def fnPersonsWithRecoversRuleSetsRow : OpenClaim := { program := "qxb6609375a", sum := "aa8f3bbbdb186e14f73c3631b618890cf621133f71b040604e21d4f37db651dc", func := "example.com/armslength/armslength/zzlaws_pkg_related_b1.FnPersonsWithRecoversRuleSets", spec := "fnPersonsWithRecoversRuleSets", plainKeys := false, apart := false }
def FnPersonsWithRecoversRuleSetsSaid : Prop := fnPersonsWithRecoversRuleSetsRow.holds Try.pinned (OpenSpec.ofChange fnPersonsWithRecoversRuleSetsSpec)

/-- ITS FALSE NEIGHBOUR: 'it returns false'. Refute it at one input. -/
def fnPersonsWithRecoversRuleSetsWrong : ChangeSpec := { name := "fnPersonsWithRecoversRuleSets", fn := fun _ => fun
  | [d1, d2] => { results := [.lit (.bool false)], args := [d1, d2] }
  | _ => none }
def FnPersonsWithRecoversRuleSetsWrongFalsely : Prop := fnPersonsWithRecoversRuleSetsRow.holds Try.pinned (OpenSpec.ofChange fnPersonsWithRecoversRuleSetsWrong)

end Rows
end Go.Proofs.Qxb6609375a
