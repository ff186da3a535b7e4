/-
  DERIVED. GIVEN WITH THE SEED: THE CARDS: each row of Qxb6623274aDoorRows.lean that lists a variable, with what it lists TIED to the program's text (the seventh form; the later family's looks); each row that meets fmt, with fmt's text TOLD by the authors' own Lean function (tested against real Go, not proved from fmt's source: count such statements apart). THE CARD IS WHAT COUNTS. Prove the row's statement (the work); the ties are given (Qxb6623274aDoorTie.lean); close each card by the builder's one call (the guide's Derived/Test/ToyasCard.lean, 'card_holds'). Laid BY PROGRAM, IN A SANDBOX (cutbox-door.mjs). By AI agents, Wed Nov 11 2026. No macro, syntax, notation, axiom, sorry.
-/
import Derived.Test.Qxb6623274aDoorRows
import GoSem.ClaimSeven
namespace Go.Proofs.Qxb6623274aDoor
namespace Rows

/-- THE TIED CARD OF 'zzlaws_root_b1.FnStatusStringDecodesBack'. -/
def fnStatusStringDecodesBackCard : Claim7 := { stood := { row := fnStatusStringDecodesBackRow, standIns := [], harness := (true, "bb60217eb65df5eed77e2859310a397d4d6c7c9f0d6c3d733c79626dae30796a"), looks := false }, kinds := [], alts := [], laidByText := true, laidKinds := [.data, .data, .data], laidTests := true, laidLooks := .later }
def FnStatusStringDecodesBackCardSaid : Prop := Claim7.holds Tryd.pinned (.plain (OpenSpec.ofChange fnStatusStringDecodesBackSpec)) fnStatusStringDecodesBackCard
end Rows
end Go.Proofs.Qxb6623274aDoor
