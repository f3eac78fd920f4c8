/-
  DERIVED. GIVEN WITH THE SEED: THE CARDS: each row of YbulkfcoyDoorRows.lean that lists a variable, with what it lists TIED to the program's text (the seventh form; the later family's looks); each row that meets fmt, with fmt's text TOLD by the authors' own Lean function (tested against real Go, not proved from fmt's source: count such statements apart). THE CARD IS WHAT COUNTS. Prove the row's statement (the work); the ties are given (YbulkfcoyDoorTie.lean); close each card by the builder's one call (the guide's Derived/Test/ToyasCard.lean, 'card_holds'). Laid BY PROGRAM, IN A SANDBOX (cutbox-door.mjs). By AI agents, Wed Nov 11 2026. No macro, syntax, notation, axiom, sorry.
-/
import Derived.Test.YbulkfcoyDoorRows
import GoSem.ClaimSeven
namespace Go.Proofs.YbulkfcoyDoor
namespace Rows

/-- THE TIED CARD OF 'hushroute.LawS7707BWhole'. -/
def lawS7707BWholeCard : Claim7 := { stood := { row := lawS7707BWholeRow, standIns := [], harness := (true, "a191e868d88f750232f585bfde31695c87f2c077c3e4703bc15f2fc1265dd0cd"), looks := false }, kinds := [], alts := [], laidByText := true, laidKinds := [.called, .called], laidTests := true, laidLooks := .later }
def LawS7707BWholeCardSaid : Prop := Claim7.holds Ybad.pinned (.plain (OpenSpec.ofChange lawS7707BWholeSpec)) lawS7707BWholeCard
end Rows
end Go.Proofs.YbulkfcoyDoor
