/-
  NARROWER THAN 'FOR EVERY INPUT', by the rows' own cells (each row's printed sentence says how): LawS6454CEndpoint: laid.
  DERIVED. THE GIVEN ROWS OF THIS SEAT. 1 by the template 'for every input the law returns true; each argument reads behind the call as it read before'; 0 by the template 'total and deterministic' (their statements: YbulkecqgFmtTotals.lean).
  GIVEN WITH THE SEED: the statements are not yours to turn. If you find one false, say at which input.
  Laid BY PROGRAM, IN A SANDBOX (cutbox-rows.mjs): the forced cells as the released guide's own fill.sh prints them over the translation 9f6fb5a366b078b7… (all of the seat's roots in one cut). By AI agents, Wed Nov 11 2026. No macro, syntax, notation, axiom, sorry.
-/
import Derived.Test.YbulkecqgFmtChecked
import GoSem.Claim
import GoSem.ClaimJoined
import GoSem.ClaimMapViews
import Derived.JoinedTies
import Derived.KernelRfl
namespace Go.Proofs.YbulkecqgFmt
/- THE CELL 'sum', in the pinned program and in every row, IS THE sha256 OF THE DUMP (.gsa) THAT YbulkecqgFmtProg.lean LOADS. Nothing in Lean hashes anything: it is a label: what it is worth is what the hold of that sum in a sandbox is worth. -/
noncomputable def Ybaf.pinned : Pinned := { name := "ybulkecqgfmt", sum := "9f6fb5a366b078b79416861fbec311fe38bcc78f1d5e164e0c8e417c8109b23d", checked := Ybaf.checked }
namespace Rows
def none {H : Type} : Left H := { results := [], args := [] }

/- WHAT THE LISTED PACKAGE-LEVEL VARIABLES READ AS WHEN THE CALL BEGINS. Each datum BY PROGRAM (the guide's laid-datum.mjs) off the statement by which the dump's own 'gosem.cut.vars' lays the variable. In a bare row this is a premise. The card (YbulkecqgFmtCards.lean) ties it to the program's text. -/
def laid_example_com_otsukai_otsukai_productHosts {H : Type} : DataW H := .slice [.agg [.lit (.string [114, 116, 99]), .lit (.string [122, 101, 103, 111, 46, 105, 109]), .lit (.bool true)], .agg [.lit (.string [119, 104, 105, 116, 101, 98, 111, 97, 114, 100]), .lit (.string [122, 101, 103, 111, 46, 105, 109]), .lit (.bool true)], .agg [.lit (.string [99, 108, 111, 117, 100, 114, 101, 99, 111, 114, 100]), .lit (.string [122, 101, 103, 111, 46, 105, 109]), .lit (.bool true)], .agg [.lit (.string [99, 108, 111, 117, 100, 45, 112, 108, 97, 121, 101, 114]), .lit (.string [122, 101, 103, 111, 46, 105, 109]), .lit (.bool true)], .agg [.lit (.string [109, 105, 110, 105, 45, 103, 97, 109, 101]), .lit (.string [122, 101, 103, 111, 46, 105, 109]), .lit (.bool true)], .agg [.lit (.string [97, 105, 103, 99, 45, 100, 105, 103, 105, 116, 97, 108, 104, 117, 109, 97, 110]), .lit (.string [122, 101, 103, 111, 116, 101, 99, 104, 46, 99, 110]), .lit (.bool false)]] []
def laid_example_com_otsukai_otsukai_regions {H : Type} : DataW H := .slice [.lit (.string [115, 104, 97]), .lit (.string [104, 107, 103]), .lit (.string [102, 114, 97]), .lit (.string [108, 97, 120]), .lit (.string [98, 111, 109]), .lit (.string [115, 103, 112])] []

/-- 'otsukai.LawS6454CEndpoint': WHATEVER THE INPUT: true; the input reads as it did. -/
def lawS6454CEndpointSpec : ChangeSpec := { name := "lawS6454CEndpoint", vars := ["example.com/otsukai/otsukai.productHosts", "example.com/otsukai/otsukai.regions"], fn := fun _ => fun
  | [g1, g2] => { results := [.lit (.bool true)], args := [], vars := [g1, g2] }
  | _ => none }
def lawS6454CEndpointRow : OpenClaim := { program := "ybulkecqgfmt", sum := "9f6fb5a366b078b79416861fbec311fe38bcc78f1d5e164e0c8e417c8109b23d", func := "example.com/otsukai/otsukai.LawS6454CEndpoint", spec := "lawS6454CEndpoint", stops := ["fmt.errorf"], inPlace := ["internal/abi.NoEscape", "internal/bytealg.MakeNoZero", "fmt.errorf"], unfollowed := true, recurses := true, named := ["example.com/otsukai/otsukai.productHosts", "example.com/otsukai/otsukai.regions"], apart := false, laid := [("example.com/otsukai/otsukai.productHosts", laid_example_com_otsukai_otsukai_productHosts), ("example.com/otsukai/otsukai.regions", laid_example_com_otsukai_otsukai_regions)] }
/-- NO THEOREM (fmt's text is open here; it may be false): for the released tool's asking of the row's closed facts alone. THE STATEMENT IS 'LawS6454CEndpointToldSaid' (YbulkecqgFmtCards.lean). -/
def LawS6454CEndpointFormAsk : Prop := lawS6454CEndpointRow.holds Ybaf.pinned (OpenSpec.ofChange lawS6454CEndpointSpec)

/-- ITS FALSE NEIGHBOUR: 'it returns false'. Refute it at one input. -/
def lawS6454CEndpointWrong : ChangeSpec := { name := "lawS6454CEndpoint", vars := ["example.com/otsukai/otsukai.productHosts", "example.com/otsukai/otsukai.regions"], fn := fun _ => fun
  | [g1, g2] => { results := [.lit (.bool false)], args := [], vars := [g1, g2] }
  | _ => none }
def LawS6454CEndpointWrongFormAsk : Prop := lawS6454CEndpointRow.holds Ybaf.pinned (OpenSpec.ofChange lawS6454CEndpointWrong)

end Rows
end Go.Proofs.YbulkecqgFmt
