/-
  DERIVED. GIVEN WITH THE SEED: THE CARDS: each row of YbulkgahmDoorRows.lean that lists a variable, with what it lists TIED to the program's text (the seventh form; the later family's looks); each row that meets fmt, with fmt's text TOLD by the authors' own Lean function (tested against real Go, not proved from fmt's source: count such statements apart). THE CARD IS WHAT COUNTS. Prove the row's statement (the work); the ties are given (YbulkgahmDoorTie.lean); close each card by the builder's one call (the guide's Derived/Test/ToyasCard.lean, 'card_holds'). Laid BY PROGRAM, IN A SANDBOX (cutbox-door.mjs). By AI agents, Wed Nov 11 2026. No macro, syntax, notation, axiom, sorry.
-/
import Derived.Test.YbulkgahmDoorRows
import GoSem.ClaimSeven
namespace Go.Proofs.YbulkgahmDoor
namespace Rows

/-- THE TIED CARD OF 'history.LawS8852CWhole'. -/
def lawS8852CWholeCard : Claim7 := { stood := { row := lawS8852CWholeRow, standIns := [], harness := (true, "5d1f239e3b2d05073bb1b28fd870a26ecd9412655dc68a69cd07430b506c8074"), looks := false }, kinds := [], alts := [], laidByText := true, laidKinds := [.data, .data, .data], laidTests := true, laidLooks := .later }
def LawS8852CWholeCardSaid : Prop := Claim7.holds Ybad.pinned (.plain (OpenSpec.ofChange lawS8852CWholeSpec)) lawS8852CWholeCard
end Rows
end Go.Proofs.YbulkgahmDoor
