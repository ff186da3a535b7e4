/-
  DERIVED. GIVEN WITH THE SEED: THE CARDS: each row of Qxb6618402aDoorRows.lean that lists a variable, with what it lists TIED to the program's text (the seventh form; the later family's looks); each row that meets fmt, with fmt's text TOLD by the authors' own Lean function (tested against real Go, not proved from fmt's source: count such statements apart). THE CARD IS WHAT COUNTS. Prove the row's statement (the work); the ties are given (Qxb6618402aDoorTie.lean); close each card by the builder's one call (the guide's Derived/Test/ToyasCard.lean, 'card_holds'). Laid BY PROGRAM, IN A SANDBOX (cutbox-door.mjs). By AI agents, Wed Nov 11 2026. No macro, syntax, notation, axiom, sorry.
-/
import Derived.Test.Qxb6618402aDoorRows
import GoSem.ClaimSeven
namespace Go.Proofs.Qxb6618402aDoor
namespace Rows

/-- THE TIED CARD OF 'zzlaws_protocol_b1.FnVersionStringDigitsAndSign'. -/
def fnVersionStringDigitsAndSignCard : Claim7 := { stood := { row := fnVersionStringDigitsAndSignRow, standIns := [], harness := (true, "91f3a77f57cecb07c18705f270bdba9d5285721e80cfeec2261a419c1320391d"), looks := false }, kinds := [], alts := [], laidByText := true, laidKinds := [.data, .data, .data], laidTests := true, laidLooks := .later }
def FnVersionStringDigitsAndSignCardSaid : Prop := Claim7.holds Tryd.pinned (.plain (OpenSpec.ofChange fnVersionStringDigitsAndSignSpec)) fnVersionStringDigitsAndSignCard
end Rows
end Go.Proofs.Qxb6618402aDoor
