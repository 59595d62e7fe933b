/-
  DERIVED. GIVEN WITH THE SEED: THE CARDS: each row of YbulkecriDoorRows.lean that lists a variable, with what it lists TIED to the program's text (the seventh form; the later family's looks); each row that meets fmt, with fmt's text TOLD by the authors' own Lean function (tested against real Go, not proved from fmt's source: count such statements apart). THE CARD IS WHAT COUNTS. Prove the row's statement (the work); the ties are given (YbulkecriDoorTie.lean); close each card by the builder's one call (the guide's Derived/Test/ToyasCard.lean, 'card_holds'). Laid BY PROGRAM, IN A SANDBOX (cutbox-door.mjs). By AI agents, Wed Nov 11 2026. No macro, syntax, notation, axiom, sorry.
-/
import Derived.Test.YbulkecriDoorRows
import GoSem.ClaimSeven
namespace Go.Proofs.YbulkecriDoor
namespace Rows

/-- THE TIED CARD OF 'radicand.LawS6456AWhole'. -/
def lawS6456AWholeCard : Claim7 := { stood := { row := lawS6456AWholeRow, standIns := [], harness := (true, "2e9b4a9d681221c94c3e762042886aefff7a0ab804f9941917201f721def4ae6"), looks := false }, kinds := [], alts := [], laidByText := true, laidKinds := [.data, .data, .data, .data], laidTests := true, laidLooks := .later }
def LawS6456AWholeCardSaid : Prop := Claim7.holds Ybad.pinned (.plain (OpenSpec.ofChange lawS6456AWholeSpec)) lawS6456AWholeCard

/-- THE TIED CARD OF 'radicand.LawS6456BWhole'. -/
def lawS6456BWholeCard : Claim7 := { stood := { row := lawS6456BWholeRow, standIns := [], harness := (true, "2e9b4a9d681221c94c3e762042886aefff7a0ab804f9941917201f721def4ae6"), looks := false }, kinds := [], alts := [], laidByText := true, laidKinds := [.data], laidTests := true, laidLooks := .later }
def LawS6456BWholeCardSaid : Prop := Claim7.holds Ybad.pinned (.plain (OpenSpec.ofChange lawS6456BWholeSpec)) lawS6456BWholeCard

/-- THE TIED CARD OF 'radicand.LawS6456CWhole'. -/
def lawS6456CWholeCard : Claim7 := { stood := { row := lawS6456CWholeRow, standIns := [], harness := (true, "2e9b4a9d681221c94c3e762042886aefff7a0ab804f9941917201f721def4ae6"), looks := false }, kinds := [], alts := [], laidByText := true, laidKinds := [.data, .data, .data, .data], laidTests := true, laidLooks := .later }
def LawS6456CWholeCardSaid : Prop := Claim7.holds Ybad.pinned (.plain (OpenSpec.ofChange lawS6456CWholeSpec)) lawS6456CWholeCard
end Rows
end Go.Proofs.YbulkecriDoor
