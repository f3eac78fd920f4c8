/-
  DERIVED. GIVEN WITH THE SEED: THE CARDS: each row of YbulkfeocDoorRows.lean that lists a variable, with what it lists TIED to the program's text (the seventh form; the later family's looks); each row that meets fmt, with fmt's text TOLD by the authors' own Lean function (tested against real Go, not proved from fmt's source: count such statements apart). THE CARD IS WHAT COUNTS. Prove the row's statement (the work); the ties are given (YbulkfeocDoorTie.lean); close each card by the builder's one call (the guide's Derived/Test/ToyasCard.lean, 'card_holds'). Laid BY PROGRAM, IN A SANDBOX (cutbox-door.mjs). By AI agents, Wed Nov 11 2026. No macro, syntax, notation, axiom, sorry.
-/
import Derived.Test.YbulkfeocDoorRows
import GoSem.ClaimSeven
namespace Go.Proofs.YbulkfeocDoor
namespace Rows

/-- THE TIED CARD OF 'erne.LawS7802APart'. -/
def lawS7802APartCard : Claim7 := { stood := { row := lawS7802APartRow, standIns := [], harness := (true, "597ba52ec3838356f9f06f13e5f7670776350294621ccfbd5935a4c16eb9c63a"), looks := false }, kinds := [], alts := [], laidByText := true, laidKinds := [.sentinel], laidTests := true, laidLooks := .later }
def LawS7802APartCardSaid : Prop := Claim7.holds Ybad.pinned (.plain (OpenSpec.ofChange lawS7802APartSpec)) lawS7802APartCard
end Rows
end Go.Proofs.YbulkfeocDoor
