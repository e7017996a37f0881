/-
  No cell of these rows narrows 'for every input' (looked for: loops, veiled, ifaces, maps, wideKeys, modest, calm, conditions, laid).
  DERIVED. THE GIVEN ROWS OF THIS SEAT. 2 by the template 'for every input the law returns true; each argument reads behind the call as it read before'; 0 by the template 'total and deterministic' (their statements: Qxb6609459aTotals.lean).
  GIVEN WITH THE SEED: the statements are not yours to turn. If you find one false, say at which input.
  Laid BY PROGRAM, IN A SANDBOX (cutbox-rows.mjs): the forced cells as the released guide's own fill.sh prints them over the translation bc509146c263564e… (all of the seat's roots in one cut). By AI agents, Wed Nov 11 2026. No macro, syntax, notation, axiom, sorry.
-/
import Derived.Test.Qxb6609459aChecked
import GoSem.Claim
import GoSem.ClaimJoined
import GoSem.ClaimMapViews
import Derived.JoinedTies
import Derived.KernelRfl
namespace Go.Proofs.Qxb6609459a
/- THE CELL 'sum', in the pinned program and in every row, IS THE sha256 OF THE DUMP (.gsa) THAT Qxb6609459aProg.lean LOADS. Nothing in Lean hashes anything: it is a label: what it is worth is what the hold of that sum in a sandbox is worth. -/
noncomputable def Try.pinned : Pinned := { name := "qxb6609459a", sum := "bc509146c263564e66189146e6884a29831354c695941d7e9ce2c56851feaea5", checked := Try.checked }
namespace Rows
def none {H : Type} : Left H := { results := [], args := [] }

/-- 'zzlaws_internal_amqpwire_b1.FnCompoundCodeDependsOnTypeAlone': WHATEVER THE INPUT: true; the input reads as it did. -/
def fnCompoundCodeDependsOnTypeAloneSpec : ChangeSpec := { name := "fnCompoundCodeDependsOnTypeAlone", fn := fun _ => fun
  | [d1, d2, d3, d4] => { results := [.lit (.bool true)], args := [d1, d2, d3, d4] }
  | _ => none }
def fnCompoundCodeDependsOnTypeAloneRow : OpenClaim := { program := "qxb6609459a", sum := "bc509146c263564e66189146e6884a29831354c695941d7e9ce2c56851feaea5", func := "example.com/mooring/mooring/zzlaws_internal_amqpwire_b1.FnCompoundCodeDependsOnTypeAlone", spec := "fnCompoundCodeDependsOnTypeAlone", apart := false }
def FnCompoundCodeDependsOnTypeAloneSaid : Prop := fnCompoundCodeDependsOnTypeAloneRow.holds Try.pinned (OpenSpec.ofChange fnCompoundCodeDependsOnTypeAloneSpec)

/-- ITS FALSE NEIGHBOUR: 'it returns false'. Refute it at one input. -/
def fnCompoundCodeDependsOnTypeAloneWrong : ChangeSpec := { name := "fnCompoundCodeDependsOnTypeAlone", fn := fun _ => fun
  | [d1, d2, d3, d4] => { results := [.lit (.bool false)], args := [d1, d2, d3, d4] }
  | _ => none }
def FnCompoundCodeDependsOnTypeAloneWrongFalsely : Prop := fnCompoundCodeDependsOnTypeAloneRow.holds Try.pinned (OpenSpec.ofChange fnCompoundCodeDependsOnTypeAloneWrong)

/-- 'zzlaws_internal_amqpwire_b1.FnMapSectionScriptKeepsPresentSectionsInOrder': WHATEVER THE INPUT: true; the input reads as it did. -/
def fnMapSectionScriptKeepsPresentSectionsInOrderSpec : ChangeSpec := { name := "fnMapSectionScriptKeepsPresentSectionsInOrder", fn := fun _ => fun
  | [d] => { results := [.lit (.bool true)], args := [d] }
  | _ => none }
def fnMapSectionScriptKeepsPresentSectionsInOrderRow : OpenClaim := { program := "qxb6609459a", sum := "bc509146c263564e66189146e6884a29831354c695941d7e9ce2c56851feaea5", func := "example.com/mooring/mooring/zzlaws_internal_amqpwire_b1.FnMapSectionScriptKeepsPresentSectionsInOrder", spec := "fnMapSectionScriptKeepsPresentSectionsInOrder", apart := false }
def FnMapSectionScriptKeepsPresentSectionsInOrderSaid : Prop := fnMapSectionScriptKeepsPresentSectionsInOrderRow.holds Try.pinned (OpenSpec.ofChange fnMapSectionScriptKeepsPresentSectionsInOrderSpec)

/-- ITS FALSE NEIGHBOUR: 'it returns false'. Refute it at one input. -/
def fnMapSectionScriptKeepsPresentSectionsInOrderWrong : ChangeSpec := { name := "fnMapSectionScriptKeepsPresentSectionsInOrder", fn := fun _ => fun
  | [d] => { results := [.lit (.bool false)], args := [d] }
  | _ => none }
def FnMapSectionScriptKeepsPresentSectionsInOrderWrongFalsely : Prop := fnMapSectionScriptKeepsPresentSectionsInOrderRow.holds Try.pinned (OpenSpec.ofChange fnMapSectionScriptKeepsPresentSectionsInOrderWrong)

end Rows
end Go.Proofs.Qxb6609459a
