/-
  DERIVED. GIVEN WITH THE SEED: THE CARDS: each row of YbulkecpsFmtRows.lean that lists a variable, with what it lists TIED to the program's text (the seventh form; the later family's looks); each row that meets fmt, with fmt's text TOLD by the authors' own Lean function (tested against real Go, not proved from fmt's source: count such statements apart). THE CARD IS WHAT COUNTS. Prove the row's statement (the work); the ties are given (YbulkecpsFmtTie.lean); close each card by the builder's one call (the guide's Derived/Test/ToyasCard.lean, 'card_holds'). Laid BY PROGRAM, IN A SANDBOX (cutbox-door.mjs). By AI agents, Wed Nov 11 2026. No macro, syntax, notation, axiom, sorry.
-/
import Derived.Test.YbulkecpsFmtRows
import GoSem.ClaimSeven
namespace Go.Proofs.YbulkecpsFmt
namespace Rows

/-- THE TOLD AND TIED CARD OF 'chunkenc.LawS6453AWhole'. -/
def lawS6453AWholeCard : Claim7 := { stood := { row := lawS6453AWholeRow, standIns := [], harness := (true, "98355f17a10c1eca672f7963566bed38f4d60c2bd949727a56bd6dbfcdaae5e1"), looks := true }, told := true, laidByText := true, laidKinds := [.data, .sentinel], laidTests := true, laidLooks := .later, goes := false }
def LawS6453AWholeToldSaid : Prop := Claim7.holds Ybaf.pinned (.plain (OpenSpec.ofChange lawS6453AWholeSpec)) lawS6453AWholeCard
/-- ITS FALSE NEIGHBOUR. Refute it at one input. -/
def LawS6453AWholeToldWrongFalsely : Prop := Claim7.holds Ybaf.pinned (.plain (OpenSpec.ofChange lawS6453AWholeWrong)) lawS6453AWholeCard

/-- THE TOLD AND TIED CARD OF 'chunkenc.LawS6453AFull'. -/
def lawS6453AFullCard : Claim7 := { stood := { row := lawS6453AFullRow, standIns := [], harness := (true, "98355f17a10c1eca672f7963566bed38f4d60c2bd949727a56bd6dbfcdaae5e1"), looks := true }, told := true, laidByText := true, laidKinds := [.data, .sentinel], laidTests := true, laidLooks := .later, goes := false }
def LawS6453AFullToldSaid : Prop := Claim7.holds Ybaf.pinned (.plain (OpenSpec.ofChange lawS6453AFullSpec)) lawS6453AFullCard
/-- ITS FALSE NEIGHBOUR. Refute it at one input. -/
def LawS6453AFullToldWrongFalsely : Prop := Claim7.holds Ybaf.pinned (.plain (OpenSpec.ofChange lawS6453AFullWrong)) lawS6453AFullCard
end Rows
end Go.Proofs.YbulkecpsFmt
