/-
  DERIVED. GIVEN WITH THE SEED: THE CARDS: each row of YbulkecqgFmtRows.lean that lists a variable, with what it lists TIED to the program's text (the seventh form; the later family's looks); each row that meets fmt, with fmt's text TOLD by the authors' own Lean function (tested against real Go, not proved from fmt's source: count such statements apart). THE CARD IS WHAT COUNTS. Prove the row's statement (the work); the ties are given (YbulkecqgFmtTie.lean); close each card by the builder's one call (the guide's Derived/Test/ToyasCard.lean, 'card_holds'). Laid BY PROGRAM, IN A SANDBOX (cutbox-door.mjs). By AI agents, Wed Nov 11 2026. No macro, syntax, notation, axiom, sorry.
-/
import Derived.Test.YbulkecqgFmtRows
import GoSem.ClaimSeven
namespace Go.Proofs.YbulkecqgFmt
namespace Rows

/-- THE TOLD AND TIED CARD OF 'otsukai.LawS6454CEndpoint'. -/
def lawS6454CEndpointCard : Claim7 := { stood := { row := lawS6454CEndpointRow, standIns := [], harness := (true, "20b6031210d83aa28790fc0aa190fd2a397234d14a2706a57f3175938b655180"), looks := false }, told := true, laidByText := true, laidKinds := [.widerDeep, .widerDeep], laidTests := true, laidLooks := .later, goes := false }
def LawS6454CEndpointToldSaid : Prop := Claim7.holds Ybaf.pinned (.plain (OpenSpec.ofChange lawS6454CEndpointSpec)) lawS6454CEndpointCard
/-- ITS FALSE NEIGHBOUR. Refute it at one input. -/
def LawS6454CEndpointToldWrongFalsely : Prop := Claim7.holds Ybaf.pinned (.plain (OpenSpec.ofChange lawS6454CEndpointWrong)) lawS6454CEndpointCard
end Rows
end Go.Proofs.YbulkecqgFmt
