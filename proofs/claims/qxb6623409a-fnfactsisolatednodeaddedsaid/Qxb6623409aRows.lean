/-
  No cell of these rows narrows 'for every input' (looked for: loops, veiled, ifaces, maps, wideKeys, modest, calm, conditions, laid).
  DERIVED. THE GIVEN ROWS OF THIS SEAT. 2 by the template 'for every input the law returns true; each argument reads behind the call as it read before'; 0 by the template 'total and deterministic' (their statements: Qxb6623409aTotals.lean).
  GIVEN WITH THE SEED: the statements are not yours to turn. If you find one false, say at which input.
  Laid BY PROGRAM, IN A SANDBOX (cutbox-rows.mjs): the forced cells as the released guide's own fill.sh prints them over the translation 5555725850d84546… (all of the seat's roots in one cut). By AI agents, Wed Nov 11 2026. No macro, syntax, notation, axiom, sorry.
-/
import Derived.Test.Qxb6623409aChecked
import GoSem.Claim
import GoSem.ClaimJoined
import GoSem.ClaimMapViews
import Derived.JoinedTies
import Derived.KernelRfl
namespace Go.Proofs.Qxb6623409a
/- THE CELL 'sum', in the pinned program and in every row, IS THE sha256 OF THE DUMP (.gsa) THAT Qxb6623409aProg.lean LOADS. Nothing in Lean hashes anything: it is a label: what it is worth is what the hold of that sum in a sandbox is worth. -/
noncomputable def Try.pinned : Pinned := { name := "qxb6623409a", sum := "5555725850d845464057ec12a15757dbb015b161016e9584f77cc5b559624369", checked := Try.checked }
namespace Rows
def none {H : Type} : Left H := { results := [], args := [] }

/-- 'zzlaws_root_b1.FnFactsDescribesTheLists': WHATEVER THE INPUT: true; the input reads as it did. -/
def fnFactsDescribesTheListsSpec : ChangeSpec := { name := "fnFactsDescribesTheLists", fn := fun _ => fun
  | [d1, d2, d3, d4] => { results := [.lit (.bool true)], args := [d1, d2, d3, d4] }
  | _ => none }
def fnFactsDescribesTheListsRow : OpenClaim := { program := "qxb6623409a", sum := "5555725850d845464057ec12a15757dbb015b161016e9584f77cc5b559624369", func := "example.com/hearsay/hearsay/zzlaws_root_b1.FnFactsDescribesTheLists", spec := "fnFactsDescribesTheLists", apart := false }
def FnFactsDescribesTheListsSaid : Prop := fnFactsDescribesTheListsRow.holds Try.pinned (OpenSpec.ofChange fnFactsDescribesTheListsSpec)

/-- ITS FALSE NEIGHBOUR: 'it returns false'. Refute it at one input. -/
def fnFactsDescribesTheListsWrong : ChangeSpec := { name := "fnFactsDescribesTheLists", fn := fun _ => fun
  | [d1, d2, d3, d4] => { results := [.lit (.bool false)], args := [d1, d2, d3, d4] }
  | _ => none }
def FnFactsDescribesTheListsWrongFalsely : Prop := fnFactsDescribesTheListsRow.holds Try.pinned (OpenSpec.ofChange fnFactsDescribesTheListsWrong)

/-- 'zzlaws_root_b1.FnFactsIsolatedNodeAdded': WHATEVER THE INPUT: true; the input reads as it did. -/
def fnFactsIsolatedNodeAddedSpec : ChangeSpec := { name := "fnFactsIsolatedNodeAdded", fn := fun _ => fun
  | [d1, d2, d3, d4] => { results := [.lit (.bool true)], args := [d1, d2, d3, d4] }
  | _ => none }
def fnFactsIsolatedNodeAddedRow : OpenClaim := { program := "qxb6623409a", sum := "5555725850d845464057ec12a15757dbb015b161016e9584f77cc5b559624369", func := "example.com/hearsay/hearsay/zzlaws_root_b1.FnFactsIsolatedNodeAdded", spec := "fnFactsIsolatedNodeAdded", apart := false }
def FnFactsIsolatedNodeAddedSaid : Prop := fnFactsIsolatedNodeAddedRow.holds Try.pinned (OpenSpec.ofChange fnFactsIsolatedNodeAddedSpec)

/-- ITS FALSE NEIGHBOUR: 'it returns false'. Refute it at one input. -/
def fnFactsIsolatedNodeAddedWrong : ChangeSpec := { name := "fnFactsIsolatedNodeAdded", fn := fun _ => fun
  | [d1, d2, d3, d4] => { results := [.lit (.bool false)], args := [d1, d2, d3, d4] }
  | _ => none }
def FnFactsIsolatedNodeAddedWrongFalsely : Prop := fnFactsIsolatedNodeAddedRow.holds Try.pinned (OpenSpec.ofChange fnFactsIsolatedNodeAddedWrong)

end Rows
end Go.Proofs.Qxb6623409a
