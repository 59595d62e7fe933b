/-
  NARROWER THAN 'FOR EVERY INPUT', by the rows' own cells (each row's printed sentence says how): LawS6456AWhole: laid · LawS6456BWhole: laid · LawS6456CWhole: laid.
  DERIVED. THE GIVEN ROWS OF THIS SEAT. 3 by the template 'for every input the law returns true; each argument reads behind the call as it read before'; 0 by the template 'total and deterministic' (their statements: YbulkecriDoorTotals.lean).
  GIVEN WITH THE SEED: the statements are not yours to turn. If you find one false, say at which input.
  Laid BY PROGRAM, IN A SANDBOX (cutbox-rows.mjs): the forced cells as the released guide's own fill.sh prints them over the translation c8b51c7fdf1bc247… (all of the seat's roots in one cut). By AI agents, Wed Nov 11 2026. No macro, syntax, notation, axiom, sorry.
-/
import Derived.Test.YbulkecriDoorChecked
import GoSem.Claim
import GoSem.ClaimJoined
import GoSem.ClaimMapViews
import Derived.JoinedTies
import Derived.KernelRfl
namespace Go.Proofs.YbulkecriDoor
/- THE CELL 'sum', in the pinned program and in every row, IS THE sha256 OF THE DUMP (.gsa) THAT YbulkecriDoorProg.lean LOADS. Nothing in Lean hashes anything: it is a label: what it is worth is what the hold of that sum in a sandbox is worth. -/
noncomputable def Ybad.pinned : Pinned := { name := "ybulkecridoor", sum := "c8b51c7fdf1bc24770416c0f98f776c2edd9bf55345016aaaa020306018c820c", checked := Ybad.checked }
namespace Rows
def none {H : Type} : Left H := { results := [], args := [] }

/- WHAT THE LISTED PACKAGE-LEVEL VARIABLES READ AS WHEN THE CALL BEGINS. Each datum BY PROGRAM (the guide's laid-datum.mjs) off the statement by which the dump's own 'gosem.cut.vars' lays the variable. In a bare row this is a premise. The card (YbulkecriDoorCards.lean) ties it to the program's text. -/
def laid_math_bits_deBruijn32tab {H : Type} : DataW H := .agg [.lit (.int .u8 0), .lit (.int .u8 1), .lit (.int .u8 28), .lit (.int .u8 2), .lit (.int .u8 29), .lit (.int .u8 14), .lit (.int .u8 24), .lit (.int .u8 3), .lit (.int .u8 30), .lit (.int .u8 22), .lit (.int .u8 20), .lit (.int .u8 15), .lit (.int .u8 25), .lit (.int .u8 17), .lit (.int .u8 4), .lit (.int .u8 8), .lit (.int .u8 31), .lit (.int .u8 27), .lit (.int .u8 13), .lit (.int .u8 23), .lit (.int .u8 21), .lit (.int .u8 19), .lit (.int .u8 16), .lit (.int .u8 7), .lit (.int .u8 26), .lit (.int .u8 12), .lit (.int .u8 18), .lit (.int .u8 6), .lit (.int .u8 11), .lit (.int .u8 5), .lit (.int .u8 10), .lit (.int .u8 9)]
def laid_math_bits_deBruijn64tab {H : Type} : DataW H := .agg [.lit (.int .u8 0), .lit (.int .u8 1), .lit (.int .u8 56), .lit (.int .u8 2), .lit (.int .u8 57), .lit (.int .u8 49), .lit (.int .u8 28), .lit (.int .u8 3), .lit (.int .u8 61), .lit (.int .u8 58), .lit (.int .u8 42), .lit (.int .u8 50), .lit (.int .u8 38), .lit (.int .u8 29), .lit (.int .u8 17), .lit (.int .u8 4), .lit (.int .u8 62), .lit (.int .u8 47), .lit (.int .u8 59), .lit (.int .u8 36), .lit (.int .u8 45), .lit (.int .u8 43), .lit (.int .u8 51), .lit (.int .u8 22), .lit (.int .u8 53), .lit (.int .u8 39), .lit (.int .u8 33), .lit (.int .u8 30), .lit (.int .u8 24), .lit (.int .u8 18), .lit (.int .u8 12), .lit (.int .u8 5), .lit (.int .u8 63), .lit (.int .u8 55), .lit (.int .u8 48), .lit (.int .u8 27), .lit (.int .u8 60), .lit (.int .u8 41), .lit (.int .u8 37), .lit (.int .u8 16), .lit (.int .u8 46), .lit (.int .u8 35), .lit (.int .u8 44), .lit (.int .u8 21), .lit (.int .u8 52), .lit (.int .u8 32), .lit (.int .u8 23), .lit (.int .u8 11), .lit (.int .u8 54), .lit (.int .u8 26), .lit (.int .u8 40), .lit (.int .u8 15), .lit (.int .u8 34), .lit (.int .u8 20), .lit (.int .u8 31), .lit (.int .u8 10), .lit (.int .u8 25), .lit (.int .u8 14), .lit (.int .u8 19), .lit (.int .u8 9), .lit (.int .u8 13), .lit (.int .u8 8), .lit (.int .u8 7), .lit (.int .u8 6)]
def laid_internal_strconv_uint64pow10 {H : Type} : DataW H := .agg [.lit (.int .u64 1), .lit (.int .u64 10), .lit (.int .u64 100), .lit (.int .u64 1000), .lit (.int .u64 10000), .lit (.int .u64 100000), .lit (.int .u64 1000000), .lit (.int .u64 10000000), .lit (.int .u64 100000000), .lit (.int .u64 1000000000), .lit (.int .u64 10000000000), .lit (.int .u64 100000000000), .lit (.int .u64 1000000000000), .lit (.int .u64 10000000000000), .lit (.int .u64 100000000000000), .lit (.int .u64 1000000000000000), .lit (.int .u64 10000000000000000), .lit (.int .u64 100000000000000000), .lit (.int .u64 1000000000000000000), .lit (.int .u64 10000000000000000000)]
def laid_example_com_radicand_radicand_roundingDirections {H : Type} : DataW H := .agg [.agg [.lit (.string [78, 101, 97, 114, 101, 115, 116, 69, 118, 101, 110]), .lit (.int .u64 1)], .agg [.lit (.string [84, 111, 119, 97, 114, 100, 90, 101, 114, 111]), .lit (.int .u64 0)], .agg [.lit (.string [68, 111, 119, 110]), .lit (.int .u64 0)], .agg [.lit (.string [85, 112]), .lit (.int .u64 2)], .agg [.lit (.string [78, 101, 97, 114, 101, 115, 116, 65, 119, 97, 121]), .lit (.int .u64 1)]]
def laid_example_com_radicand_radicand_nanConventions {H : Type} : DataW H := .agg [.agg [.lit (.string [80, 114, 111, 112, 97, 103, 97, 116, 101, 78, 97, 78]), .lit (.bool true), .lit (.bool false)], .agg [.lit (.string [67, 97, 110, 111, 110, 105, 99, 97, 108, 78, 97, 78]), .lit (.bool false), .lit (.bool false)], .agg [.lit (.string [88, 56, 54, 78, 97, 78]), .lit (.bool true), .lit (.bool true)]]
def laid_example_com_radicand_radicand_precisions {H : Type} : DataW H := .agg [.agg [.lit (.string [80, 114, 101, 99, 105, 115, 105, 111, 110, 54, 52]), .lit (.int .u64 64)], .agg [.lit (.string [80, 114, 101, 99, 105, 115, 105, 111, 110, 53, 51]), .lit (.int .u64 53)], .agg [.lit (.string [80, 114, 101, 99, 105, 115, 105, 111, 110, 50, 52]), .lit (.int .u64 24)]]

/-- 'radicand.LawS6456AWhole': WHATEVER THE INPUT: true; the input reads as it did. -/
def lawS6456AWholeSpec : ChangeSpec := { name := "lawS6456AWhole", vars := ["example.com/radicand/radicand.roundingDirections"], fn := fun _ => fun
  | [d, g1] => { results := [.lit (.bool true)], args := [d], vars := [g1] }
  | _ => none }
def lawS6456AWholeRow : OpenClaim := { program := "ybulkecridoor", sum := "c8b51c7fdf1bc24770416c0f98f776c2edd9bf55345016aaaa020306018c820c", func := "example.com/radicand/radicand.LawS6456AWhole", spec := "lawS6456AWhole", named := ["example.com/radicand/radicand.roundingDirections", "internal/strconv.uint64pow10", "math/bits.deBruijn32tab", "math/bits.deBruijn64tab"], apart := false, laid := [("math/bits.deBruijn32tab", laid_math_bits_deBruijn32tab), ("math/bits.deBruijn64tab", laid_math_bits_deBruijn64tab), ("internal/strconv.uint64pow10", laid_internal_strconv_uint64pow10), ("example.com/radicand/radicand.roundingDirections", laid_example_com_radicand_radicand_roundingDirections)] }
def LawS6456AWholeSaid : Prop := lawS6456AWholeRow.holds Ybad.pinned (OpenSpec.ofChange lawS6456AWholeSpec)

/-- ITS FALSE NEIGHBOUR: 'it returns false'. Refute it at one input. -/
def lawS6456AWholeWrong : ChangeSpec := { name := "lawS6456AWhole", vars := ["example.com/radicand/radicand.roundingDirections"], fn := fun _ => fun
  | [d, g1] => { results := [.lit (.bool false)], args := [d], vars := [g1] }
  | _ => none }
def LawS6456AWholeWrongFalsely : Prop := lawS6456AWholeRow.holds Ybad.pinned (OpenSpec.ofChange lawS6456AWholeWrong)

/-- 'radicand.LawS6456BWhole': WHATEVER THE INPUT: true; the input reads as it did. -/
def lawS6456BWholeSpec : ChangeSpec := { name := "lawS6456BWhole", vars := ["example.com/radicand/radicand.nanConventions"], fn := fun _ => fun
  | [d1, d2, d3, d4, g1] => { results := [.lit (.bool true)], args := [d1, d2, d3, d4], vars := [g1] }
  | _ => none }
def lawS6456BWholeRow : OpenClaim := { program := "ybulkecridoor", sum := "c8b51c7fdf1bc24770416c0f98f776c2edd9bf55345016aaaa020306018c820c", func := "example.com/radicand/radicand.LawS6456BWhole", spec := "lawS6456BWhole", named := ["example.com/radicand/radicand.nanConventions"], apart := false, laid := [("example.com/radicand/radicand.nanConventions", laid_example_com_radicand_radicand_nanConventions)] }
def LawS6456BWholeSaid : Prop := lawS6456BWholeRow.holds Ybad.pinned (OpenSpec.ofChange lawS6456BWholeSpec)

/-- ITS FALSE NEIGHBOUR: 'it returns false'. Refute it at one input. -/
def lawS6456BWholeWrong : ChangeSpec := { name := "lawS6456BWhole", vars := ["example.com/radicand/radicand.nanConventions"], fn := fun _ => fun
  | [d1, d2, d3, d4, g1] => { results := [.lit (.bool false)], args := [d1, d2, d3, d4], vars := [g1] }
  | _ => none }
def LawS6456BWholeWrongFalsely : Prop := lawS6456BWholeRow.holds Ybad.pinned (OpenSpec.ofChange lawS6456BWholeWrong)

/-- 'radicand.LawS6456CWhole': WHATEVER THE INPUT: true; the input reads as it did. -/
def lawS6456CWholeSpec : ChangeSpec := { name := "lawS6456CWhole", vars := ["example.com/radicand/radicand.precisions"], fn := fun _ => fun
  | [d, g1] => { results := [.lit (.bool true)], args := [d], vars := [g1] }
  | _ => none }
def lawS6456CWholeRow : OpenClaim := { program := "ybulkecridoor", sum := "c8b51c7fdf1bc24770416c0f98f776c2edd9bf55345016aaaa020306018c820c", func := "example.com/radicand/radicand.LawS6456CWhole", spec := "lawS6456CWhole", named := ["example.com/radicand/radicand.precisions", "internal/strconv.uint64pow10", "math/bits.deBruijn32tab", "math/bits.deBruijn64tab"], apart := false, laid := [("math/bits.deBruijn32tab", laid_math_bits_deBruijn32tab), ("math/bits.deBruijn64tab", laid_math_bits_deBruijn64tab), ("internal/strconv.uint64pow10", laid_internal_strconv_uint64pow10), ("example.com/radicand/radicand.precisions", laid_example_com_radicand_radicand_precisions)] }
def LawS6456CWholeSaid : Prop := lawS6456CWholeRow.holds Ybad.pinned (OpenSpec.ofChange lawS6456CWholeSpec)

/-- ITS FALSE NEIGHBOUR: 'it returns false'. Refute it at one input. -/
def lawS6456CWholeWrong : ChangeSpec := { name := "lawS6456CWhole", vars := ["example.com/radicand/radicand.precisions"], fn := fun _ => fun
  | [d, g1] => { results := [.lit (.bool false)], args := [d], vars := [g1] }
  | _ => none }
def LawS6456CWholeWrongFalsely : Prop := lawS6456CWholeRow.holds Ybad.pinned (OpenSpec.ofChange lawS6456CWholeWrong)

end Rows
end Go.Proofs.YbulkecriDoor
