/-
  No cell of these rows narrows 'for every input' (looked for: loops, veiled, ifaces, maps, wideKeys, modest, calm, conditions, laid).
  DERIVED. THE GIVEN ROWS OF THIS SEAT. 1 by the template 'for every input the law returns true; each argument reads behind the call as it read before'; 0 by the template 'total and deterministic' (their statements: Qxb6618462aTotals.lean).
  GIVEN WITH THE SEED: the statements are not yours to turn. If you find one false, say at which input.
  Laid BY PROGRAM, IN A SANDBOX (cutbox-rows.mjs): the forced cells as the released guide's own fill.sh prints them over the translation b2a3ec76f5114a2e… (all of the seat's roots in one cut). By AI agents, Wed Nov 11 2026. No macro, syntax, notation, axiom, sorry.
-/
import Derived.Test.Qxb6618462aChecked
import GoSem.Claim
import GoSem.ClaimJoined
import GoSem.ClaimMapViews
import Derived.JoinedTies
import Derived.KernelRfl
namespace Go.Proofs.Qxb6618462a
/- THE CELL 'sum', in the pinned program and in every row, IS THE sha256 OF THE DUMP (.gsa) THAT Qxb6618462aProg.lean LOADS. Nothing in Lean hashes anything: it is a label: what it is worth is what the hold of that sum in a sandbox is worth. -/
noncomputable def Try.pinned : Pinned := { name := "qxb6618462a", sum := "b2a3ec76f5114a2ecc6da7ed42bc4477966efa76cf8c0109426f45517509f9df", checked := Try.checked }
namespace Rows
def none {H : Type} : Left H := { results := [], args := [] }

/-- 'zzlaws_internal_dialect_b1.FnDollarDelimiterIsTheOnlyDelimiterPrefixAtAnyCut': WHATEVER THE INPUT: true; the input reads as it did. -/
def fnDollarDelimiterIsTheOnlyDelimiterPrefixAtAnyCutSpec : ChangeSpec := { name := "fnDollarDelimiterIsTheOnlyDelimiterPrefixAtAnyCut", fn := fun _ => fun
  | [d1, d2] => { results := [.lit (.bool true)], args := [d1, d2] }
  | _ => none }
def fnDollarDelimiterIsTheOnlyDelimiterPrefixAtAnyCutRow : OpenClaim := { program := "qxb6618462a", sum := "b2a3ec76f5114a2ecc6da7ed42bc4477966efa76cf8c0109426f45517509f9df", func := "example.com/finishr/finishr/zzlaws_internal_dialect_b1.FnDollarDelimiterIsTheOnlyDelimiterPrefixAtAnyCut", spec := "fnDollarDelimiterIsTheOnlyDelimiterPrefixAtAnyCut", apart := false }
def FnDollarDelimiterIsTheOnlyDelimiterPrefixAtAnyCutSaid : Prop := fnDollarDelimiterIsTheOnlyDelimiterPrefixAtAnyCutRow.holds Try.pinned (OpenSpec.ofChange fnDollarDelimiterIsTheOnlyDelimiterPrefixAtAnyCutSpec)

/-- ITS FALSE NEIGHBOUR: 'it returns false'. Refute it at one input. -/
def fnDollarDelimiterIsTheOnlyDelimiterPrefixAtAnyCutWrong : ChangeSpec := { name := "fnDollarDelimiterIsTheOnlyDelimiterPrefixAtAnyCut", fn := fun _ => fun
  | [d1, d2] => { results := [.lit (.bool false)], args := [d1, d2] }
  | _ => none }
def FnDollarDelimiterIsTheOnlyDelimiterPrefixAtAnyCutWrongFalsely : Prop := fnDollarDelimiterIsTheOnlyDelimiterPrefixAtAnyCutRow.holds Try.pinned (OpenSpec.ofChange fnDollarDelimiterIsTheOnlyDelimiterPrefixAtAnyCutWrong)

end Rows
end Go.Proofs.Qxb6618462a
