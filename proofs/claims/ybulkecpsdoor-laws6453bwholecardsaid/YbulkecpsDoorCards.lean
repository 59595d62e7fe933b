/-
  DERIVED. GIVEN WITH THE SEED: THE CARDS: each row of YbulkecpsDoorRows.lean that lists a variable, with what it lists TIED to the program's text (the seventh form; the later family's looks); each row that meets fmt, with fmt's text TOLD by the authors' own Lean function (tested against real Go, not proved from fmt's source: count such statements apart). THE CARD IS WHAT COUNTS. Prove the row's statement (the work); the ties are given (YbulkecpsDoorTie.lean); close each card by the builder's one call (the guide's Derived/Test/ToyasCard.lean, 'card_holds'). Laid BY PROGRAM, IN A SANDBOX (cutbox-door.mjs). By AI agents, Wed Nov 11 2026. No macro, syntax, notation, axiom, sorry.
-/
import Derived.Test.YbulkecpsDoorRows
import GoSem.ClaimSeven
namespace Go.Proofs.YbulkecpsDoor
namespace Rows

/-- THE TIED CARD OF 'chunkenc.LawS6453BWhole'. -/
def lawS6453BWholeCard : Claim7 := { stood := { row := lawS6453BWholeRow, standIns := [], harness := (true, "f441447dd8c8860f34d3afd2f808c9d351c40e834dc816cf42e8c52d47230973"), looks := true }, kinds := [], alts := [], laidByText := true, laidKinds := [.sentinel, .sentinel], laidTests := true, laidLooks := .later }
def LawS6453BWholeCardSaid : Prop := Claim7.holds Ybad.pinned (.plain (OpenSpec.ofChange lawS6453BWholeSpec)) lawS6453BWholeCard
end Rows
end Go.Proofs.YbulkecpsDoor
