/-
  DERIVED. GIVEN WITH THE SEED: THE CARDS: each row of YbulkgbaiDoorRows.lean that lists a variable, with what it lists TIED to the program's text (the seventh form; the later family's looks); each row that meets fmt, with fmt's text TOLD by the authors' own Lean function (tested against real Go, not proved from fmt's source: count such statements apart). THE CARD IS WHAT COUNTS. Prove the row's statement (the work); the ties are given (YbulkgbaiDoorTie.lean); close each card by the builder's one call (the guide's Derived/Test/ToyasCard.lean, 'card_holds'). Laid BY PROGRAM, IN A SANDBOX (cutbox-door.mjs). By AI agents, Wed Nov 11 2026. No macro, syntax, notation, axiom, sorry.
-/
import Derived.Test.YbulkgbaiDoorRows
import GoSem.ClaimSeven
namespace Go.Proofs.YbulkgbaiDoor
namespace Rows

/-- THE TIED CARD OF 'broadcast.LawS8887BWhole'. -/
def lawS8887BWholeCard : Claim7 := { stood := { row := lawS8887BWholeRow, standIns := [], harness := (true, "e33b208b604f9a901504fe75408e20bad3c0a1dbeb96686a833124f00ac3b86c"), looks := true }, kinds := [], alts := [], laidByText := true, laidKinds := [.data], laidTests := true, laidLooks := .later }
def LawS8887BWholeCardSaid : Prop := Claim7.holds Ybad.pinned (.plain (OpenSpec.ofChange lawS8887BWholeSpec)) lawS8887BWholeCard
end Rows
end Go.Proofs.YbulkgbaiDoor
