/-
  No cell of these rows narrows 'for every input' (looked for: loops, veiled, ifaces, maps, wideKeys, modest, calm, conditions, laid).
  DERIVED. THE GIVEN ROWS OF THIS SEAT. 3 by the template 'for every input the law returns true; each argument reads behind the call as it read before'; 0 by the template 'total and deterministic' (their statements: Qxb6609369aTotals.lean).
  GIVEN WITH THE SEED: the statements are not yours to turn. If you find one false, say at which input.
  Laid BY PROGRAM, IN A SANDBOX (cutbox-rows.mjs): the forced cells as the released guide's own fill.sh prints them over the translation f0f0a20812716bc8… (all of the seat's roots in one cut). By AI agents, Wed Nov 11 2026. No macro, syntax, notation, axiom, sorry.
-/
import Derived.Test.Qxb6609369aChecked
import GoSem.Claim
import GoSem.ClaimJoined
import GoSem.ClaimMapViews
import Derived.JoinedTies
import Derived.KernelRfl
namespace Go.Proofs.Qxb6609369a
/- THE CELL 'sum', in the pinned program and in every row, IS THE sha256 OF THE DUMP (.gsa) THAT Qxb6609369aProg.lean LOADS. Nothing in Lean hashes anything: it is a label: what it is worth is what the hold of that sum in a sandbox is worth. -/
noncomputable def Try.pinned : Pinned := { name := "qxb6609369a", sum := "f0f0a20812716bc88621d0017b4876b159e12053a3f2fc24f211013fe23eb7db", checked := Try.checked }
namespace Rows
def none {H : Type} : Left H := { results := [], args := [] }

/-- 'zzlaws_pkg_policy_b1.FnDeclarationOptionSignsAndEquals': WHATEVER THE INPUT: true; the input reads as it did. -/
def fnDeclarationOptionSignsAndEqualsSpec : ChangeSpec := { name := "fnDeclarationOptionSignsAndEquals", fn := fun _ => fun
  | [d1, d2] => { results := [.lit (.bool true)], args := [d1, d2] }
  | _ => none }
def fnDeclarationOptionSignsAndEqualsRow : OpenClaim := { program := "qxb6609369a", sum := "f0f0a20812716bc88621d0017b4876b159e12053a3f2fc24f211013fe23eb7db", func := "example.com/shellwright/shellwright/zzlaws_pkg_policy_b1.FnDeclarationOptionSignsAndEquals", spec := "fnDeclarationOptionSignsAndEquals", inPlace := ["internal/bytealg.IndexByteString", "internal/bytealg.IndexString"], named := ["internal/bytealg.MaxLen"], apart := false }
def FnDeclarationOptionSignsAndEqualsSaid : Prop := fnDeclarationOptionSignsAndEqualsRow.holds Try.pinned (OpenSpec.ofChange fnDeclarationOptionSignsAndEqualsSpec)

/-- ITS FALSE NEIGHBOUR: 'it returns false'. Refute it at one input. -/
def fnDeclarationOptionSignsAndEqualsWrong : ChangeSpec := { name := "fnDeclarationOptionSignsAndEquals", fn := fun _ => fun
  | [d1, d2] => { results := [.lit (.bool false)], args := [d1, d2] }
  | _ => none }
def FnDeclarationOptionSignsAndEqualsWrongFalsely : Prop := fnDeclarationOptionSignsAndEqualsRow.holds Try.pinned (OpenSpec.ofChange fnDeclarationOptionSignsAndEqualsWrong)

/-- 'zzlaws_pkg_policy_b1.FnValueOfTable': WHATEVER THE INPUT: true; the input reads as it did. -/
def fnValueOfTableSpec : ChangeSpec := { name := "fnValueOfTable", fn := fun _ => fun
  | [d] => { results := [.lit (.bool true)], args := [d] }
  | _ => none }
def fnValueOfTableRow : OpenClaim := { program := "qxb6609369a", sum := "f0f0a20812716bc88621d0017b4876b159e12053a3f2fc24f211013fe23eb7db", func := "example.com/shellwright/shellwright/zzlaws_pkg_policy_b1.FnValueOfTable", spec := "fnValueOfTable", apart := false }
def FnValueOfTableSaid : Prop := fnValueOfTableRow.holds Try.pinned (OpenSpec.ofChange fnValueOfTableSpec)

/-- ITS FALSE NEIGHBOUR: 'it returns false'. Refute it at one input. -/
def fnValueOfTableWrong : ChangeSpec := { name := "fnValueOfTable", fn := fun _ => fun
  | [d] => { results := [.lit (.bool false)], args := [d] }
  | _ => none }
def FnValueOfTableWrongFalsely : Prop := fnValueOfTableRow.holds Try.pinned (OpenSpec.ofChange fnValueOfTableWrong)

/-- 'zzlaws_pkg_policy_b1.FnValueOfShownIsFixed': WHATEVER THE INPUT: true; the input reads as it did. -/
def fnValueOfShownIsFixedSpec : ChangeSpec := { name := "fnValueOfShownIsFixed", fn := fun _ => fun
  | [d] => { results := [.lit (.bool true)], args := [d] }
  | _ => none }
def fnValueOfShownIsFixedRow : OpenClaim := { program := "qxb6609369a", sum := "f0f0a20812716bc88621d0017b4876b159e12053a3f2fc24f211013fe23eb7db", func := "example.com/shellwright/shellwright/zzlaws_pkg_policy_b1.FnValueOfShownIsFixed", spec := "fnValueOfShownIsFixed", apart := false }
def FnValueOfShownIsFixedSaid : Prop := fnValueOfShownIsFixedRow.holds Try.pinned (OpenSpec.ofChange fnValueOfShownIsFixedSpec)

/-- ITS FALSE NEIGHBOUR: 'it returns false'. Refute it at one input. -/
def fnValueOfShownIsFixedWrong : ChangeSpec := { name := "fnValueOfShownIsFixed", fn := fun _ => fun
  | [d] => { results := [.lit (.bool false)], args := [d] }
  | _ => none }
def FnValueOfShownIsFixedWrongFalsely : Prop := fnValueOfShownIsFixedRow.holds Try.pinned (OpenSpec.ofChange fnValueOfShownIsFixedWrong)

end Rows
end Go.Proofs.Qxb6609369a
