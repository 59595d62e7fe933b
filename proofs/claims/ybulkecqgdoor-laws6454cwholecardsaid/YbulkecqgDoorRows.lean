/-
  NARROWER THAN 'FOR EVERY INPUT', by the rows' own cells (each row's printed sentence says how): LawS6454CWhole: laid.
  DERIVED. THE GIVEN ROWS OF THIS SEAT. 1 by the template 'for every input the law returns true; each argument reads behind the call as it read before'; 0 by the template 'total and deterministic' (their statements: YbulkecqgDoorTotals.lean).
  GIVEN WITH THE SEED: the statements are not yours to turn. If you find one false, say at which input.
  Laid BY PROGRAM, IN A SANDBOX (cutbox-rows.mjs): the forced cells as the released guide's own fill.sh prints them over the translation 8b8026ec270fee14… (all of the seat's roots in one cut). By AI agents, Wed Nov 11 2026. No macro, syntax, notation, axiom, sorry.
-/
import Derived.Test.YbulkecqgDoorChecked
import GoSem.Claim
import GoSem.ClaimJoined
import GoSem.ClaimMapViews
import Derived.JoinedTies
import Derived.KernelRfl
namespace Go.Proofs.YbulkecqgDoor
/- THE CELL 'sum', in the pinned program and in every row, IS THE sha256 OF THE DUMP (.gsa) THAT YbulkecqgDoorProg.lean LOADS. Nothing in Lean hashes anything: it is a label: what it is worth is what the hold of that sum in a sandbox is worth. -/
noncomputable def Ybad.pinned : Pinned := { name := "ybulkecqgdoor", sum := "8b8026ec270fee142a6f725707a58162bffd8ea63048692b34dfb32c6b970689", checked := Ybad.checked }
namespace Rows
def none {H : Type} : Left H := { results := [], args := [] }

/- WHAT THE LISTED PACKAGE-LEVEL VARIABLES READ AS WHEN THE CALL BEGINS. Each datum BY PROGRAM (the guide's laid-datum.mjs) off the statement by which the dump's own 'gosem.cut.vars' lays the variable. In a bare row this is a premise. The card (YbulkecqgDoorCards.lean) ties it to the program's text. -/
def laid_example_com_otsukai_otsukai_productHosts {H : Type} : DataW H := .slice [.agg [.lit (.string [114, 116, 99]), .lit (.string [122, 101, 103, 111, 46, 105, 109]), .lit (.bool true)], .agg [.lit (.string [119, 104, 105, 116, 101, 98, 111, 97, 114, 100]), .lit (.string [122, 101, 103, 111, 46, 105, 109]), .lit (.bool true)], .agg [.lit (.string [99, 108, 111, 117, 100, 114, 101, 99, 111, 114, 100]), .lit (.string [122, 101, 103, 111, 46, 105, 109]), .lit (.bool true)], .agg [.lit (.string [99, 108, 111, 117, 100, 45, 112, 108, 97, 121, 101, 114]), .lit (.string [122, 101, 103, 111, 46, 105, 109]), .lit (.bool true)], .agg [.lit (.string [109, 105, 110, 105, 45, 103, 97, 109, 101]), .lit (.string [122, 101, 103, 111, 46, 105, 109]), .lit (.bool true)], .agg [.lit (.string [97, 105, 103, 99, 45, 100, 105, 103, 105, 116, 97, 108, 104, 117, 109, 97, 110]), .lit (.string [122, 101, 103, 111, 116, 101, 99, 104, 46, 99, 110]), .lit (.bool false)]] []

/-- 'otsukai.LawS6454CWhole': WHATEVER THE INPUT: true; the input reads as it did. -/
def lawS6454CWholeSpec : ChangeSpec := { name := "lawS6454CWhole", vars := ["example.com/otsukai/otsukai.productHosts"], fn := fun _ => fun
  | [g1] => { results := [.lit (.bool true)], args := [], vars := [g1] }
  | _ => none }
def lawS6454CWholeRow : OpenClaim := { program := "ybulkecqgdoor", sum := "8b8026ec270fee142a6f725707a58162bffd8ea63048692b34dfb32c6b970689", func := "example.com/otsukai/otsukai.LawS6454CWhole", spec := "lawS6454CWhole", named := ["example.com/otsukai/otsukai.productHosts"], apart := false, laid := [("example.com/otsukai/otsukai.productHosts", laid_example_com_otsukai_otsukai_productHosts)] }
def LawS6454CWholeSaid : Prop := lawS6454CWholeRow.holds Ybad.pinned (OpenSpec.ofChange lawS6454CWholeSpec)

/-- ITS FALSE NEIGHBOUR: 'it returns false'. Refute it at one input. -/
def lawS6454CWholeWrong : ChangeSpec := { name := "lawS6454CWhole", vars := ["example.com/otsukai/otsukai.productHosts"], fn := fun _ => fun
  | [g1] => { results := [.lit (.bool false)], args := [], vars := [g1] }
  | _ => none }
def LawS6454CWholeWrongFalsely : Prop := lawS6454CWholeRow.holds Ybad.pinned (OpenSpec.ofChange lawS6454CWholeWrong)

end Rows
end Go.Proofs.YbulkecqgDoor
