/-
  DERIVED. GIVEN WITH THE SEED: THE CARDS: each row of YbulkecqgDoorRows.lean that lists a variable, with what it lists TIED to the program's text (the seventh form; the later family's looks); each row that meets fmt, with fmt's text TOLD by the authors' own Lean function (tested against real Go, not proved from fmt's source: count such statements apart). THE CARD IS WHAT COUNTS. Prove the row's statement (the work); the ties are given (YbulkecqgDoorTie.lean); close each card by the builder's one call (the guide's Derived/Test/ToyasCard.lean, 'card_holds'). Laid BY PROGRAM, IN A SANDBOX (cutbox-door.mjs). By AI agents, Wed Nov 11 2026. No macro, syntax, notation, axiom, sorry.
-/
import Derived.Test.YbulkecqgDoorRows
import GoSem.ClaimSeven
namespace Go.Proofs.YbulkecqgDoor
namespace Rows

/-- THE TIED CARD OF 'otsukai.LawS6454CWhole'. -/
def lawS6454CWholeCard : Claim7 := { stood := { row := lawS6454CWholeRow, standIns := [], harness := (true, "f2870388c5c8f2d2cb83b0209cefb4824f65ff99104907ad18d80fef0de14354"), looks := false }, kinds := [], alts := [], laidByText := true, laidKinds := [.widerDeep], laidTests := true, laidLooks := .later }
def LawS6454CWholeCardSaid : Prop := Claim7.holds Ybad.pinned (.plain (OpenSpec.ofChange lawS6454CWholeSpec)) lawS6454CWholeCard
end Rows
end Go.Proofs.YbulkecqgDoor
