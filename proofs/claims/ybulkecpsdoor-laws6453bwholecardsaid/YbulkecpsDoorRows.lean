/-
  NARROWER THAN 'FOR EVERY INPUT', by the rows' own cells (each row's printed sentence says how): LawS6453BWhole: ifaces, laid.
  DERIVED. THE GIVEN ROWS OF THIS SEAT. 1 by the template 'for every input the law returns true; each argument reads behind the call as it read before'; 0 by the template 'total and deterministic' (their statements: YbulkecpsDoorTotals.lean).
  GIVEN WITH THE SEED: the statements are not yours to turn. If you find one false, say at which input.
  Laid BY PROGRAM, IN A SANDBOX (cutbox-rows.mjs): the forced cells as the released guide's own fill.sh prints them over the translation 5e0afbb2f2093dd5… (all of the seat's roots in one cut). By AI agents, Wed Nov 11 2026. No macro, syntax, notation, axiom, sorry.
-/
import Derived.Test.YbulkecpsDoorChecked
import GoSem.Claim
import GoSem.ClaimJoined
import GoSem.ClaimMapViews
import Derived.JoinedTies
import Derived.KernelRfl
namespace Go.Proofs.YbulkecpsDoor
/- THE CELL 'sum', in the pinned program and in every row, IS THE sha256 OF THE DUMP (.gsa) THAT YbulkecpsDoorProg.lean LOADS. Nothing in Lean hashes anything: it is a label: what it is worth is what the hold of that sum in a sandbox is worth. -/
noncomputable def Ybad.pinned : Pinned := { name := "ybulkecpsdoor", sum := "5e0afbb2f2093dd5b8e5e47bd2586ff7ed733e2317083b771b0a93776f10b41b", checked := Ybad.checked }
namespace Rows
def none {H : Type} : Left H := { results := [], args := [] }

/- WHAT THE LISTED PACKAGE-LEVEL VARIABLES READ AS WHEN THE CALL BEGINS. Each datum BY PROGRAM (the guide's laid-datum.mjs) off the statement by which the dump's own 'gosem.cut.vars' lays the variable. In a bare row this is a premise. The card (YbulkecpsDoorCards.lean) ties it to the program's text. -/
def laid_example_com_oriel_oriel_chunkenc_errShort {H : Type} : DataW H := .iface "*errors.errorString" (.ptr (.agg [.lit (.string [100, 97, 116, 97, 32, 101, 110, 100, 32, 105, 110, 32, 116, 104, 101, 32, 109, 105, 100, 100, 108, 101, 32, 111, 102, 32, 97, 32, 115, 97, 109, 112, 108, 101])]))
def laid_example_com_oriel_oriel_chunkenc_errVarint {H : Type} : DataW H := .iface "*errors.errorString" (.ptr (.agg [.lit (.string [97, 32, 118, 97, 114, 105, 110, 116, 32, 114, 117, 110, 115, 32, 112, 97, 115, 116, 32, 54, 52, 32, 98, 105, 116, 115])]))

/-- 'chunkenc.LawS6453BWhole': WHATEVER THE INPUT: true; the input reads as it did. -/
def lawS6453BWholeSpec : ChangeSpec := { name := "lawS6453BWhole", vars := ["example.com/oriel/oriel/chunkenc.errShort", "example.com/oriel/oriel/chunkenc.errVarint"], fn := fun _ => fun
  | [d1, d2, d3, d4, g1, g2] => { results := [.lit (.bool true)], args := [d1, d2, d3, d4], vars := [g1, g2] }
  | _ => none }
def lawS6453BWholeRow : OpenClaim := { program := "ybulkecpsdoor", sum := "5e0afbb2f2093dd5b8e5e47bd2586ff7ed733e2317083b771b0a93776f10b41b", func := "example.com/oriel/oriel/chunkenc.LawS6453BWhole", spec := "lawS6453BWhole", named := ["example.com/oriel/oriel/chunkenc.errShort", "example.com/oriel/oriel/chunkenc.errVarint"], ifaces := true, apart := false, laid := [("example.com/oriel/oriel/chunkenc.errShort", laid_example_com_oriel_oriel_chunkenc_errShort), ("example.com/oriel/oriel/chunkenc.errVarint", laid_example_com_oriel_oriel_chunkenc_errVarint)] }
def LawS6453BWholeSaid : Prop := lawS6453BWholeRow.holds Ybad.pinned (OpenSpec.ofChange lawS6453BWholeSpec)

/-- ITS FALSE NEIGHBOUR: 'it returns false'. Refute it at one input. -/
def lawS6453BWholeWrong : ChangeSpec := { name := "lawS6453BWhole", vars := ["example.com/oriel/oriel/chunkenc.errShort", "example.com/oriel/oriel/chunkenc.errVarint"], fn := fun _ => fun
  | [d1, d2, d3, d4, g1, g2] => { results := [.lit (.bool false)], args := [d1, d2, d3, d4], vars := [g1, g2] }
  | _ => none }
def LawS6453BWholeWrongFalsely : Prop := lawS6453BWholeRow.holds Ybad.pinned (OpenSpec.ofChange lawS6453BWholeWrong)

end Rows
end Go.Proofs.YbulkecpsDoor
