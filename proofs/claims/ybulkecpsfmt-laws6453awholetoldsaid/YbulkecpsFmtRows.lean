/-
  NARROWER THAN 'FOR EVERY INPUT', by the rows' own cells (each row's printed sentence says how): LawS6453AWhole: ifaces, laid · LawS6453AFull: ifaces, laid.
  DERIVED. THE GIVEN ROWS OF THIS SEAT. 2 by the template 'for every input the law returns true; each argument reads behind the call as it read before'; 0 by the template 'total and deterministic' (their statements: YbulkecpsFmtTotals.lean).
  GIVEN WITH THE SEED: the statements are not yours to turn. If you find one false, say at which input.
  Laid BY PROGRAM, IN A SANDBOX (cutbox-rows.mjs): the forced cells as the released guide's own fill.sh prints them over the translation 53ecb9a9ee60827b… (all of the seat's roots in one cut). By AI agents, Wed Nov 11 2026. No macro, syntax, notation, axiom, sorry.
-/
import Derived.Test.YbulkecpsFmtChecked
import GoSem.Claim
import GoSem.ClaimJoined
import GoSem.ClaimMapViews
import Derived.JoinedTies
import Derived.KernelRfl
namespace Go.Proofs.YbulkecpsFmt
/- THE CELL 'sum', in the pinned program and in every row, IS THE sha256 OF THE DUMP (.gsa) THAT YbulkecpsFmtProg.lean LOADS. Nothing in Lean hashes anything: it is a label: what it is worth is what the hold of that sum in a sandbox is worth. -/
noncomputable def Ybaf.pinned : Pinned := { name := "ybulkecpsfmt", sum := "53ecb9a9ee60827b8b784caa7390b0352962e4130c3dcec917f058804562b611", checked := Ybaf.checked }
namespace Rows
def none {H : Type} : Left H := { results := [], args := [] }

/- WHAT THE LISTED PACKAGE-LEVEL VARIABLES READ AS WHEN THE CALL BEGINS. Each datum BY PROGRAM (the guide's laid-datum.mjs) off the statement by which the dump's own 'gosem.cut.vars' lays the variable. In a bare row this is a premise. The card (YbulkecpsFmtCards.lean) ties it to the program's text. -/
def laid_math_bits_deBruijn64tab {H : Type} : DataW H := .agg [.lit (.int .u8 0), .lit (.int .u8 1), .lit (.int .u8 56), .lit (.int .u8 2), .lit (.int .u8 57), .lit (.int .u8 49), .lit (.int .u8 28), .lit (.int .u8 3), .lit (.int .u8 61), .lit (.int .u8 58), .lit (.int .u8 42), .lit (.int .u8 50), .lit (.int .u8 38), .lit (.int .u8 29), .lit (.int .u8 17), .lit (.int .u8 4), .lit (.int .u8 62), .lit (.int .u8 47), .lit (.int .u8 59), .lit (.int .u8 36), .lit (.int .u8 45), .lit (.int .u8 43), .lit (.int .u8 51), .lit (.int .u8 22), .lit (.int .u8 53), .lit (.int .u8 39), .lit (.int .u8 33), .lit (.int .u8 30), .lit (.int .u8 24), .lit (.int .u8 18), .lit (.int .u8 12), .lit (.int .u8 5), .lit (.int .u8 63), .lit (.int .u8 55), .lit (.int .u8 48), .lit (.int .u8 27), .lit (.int .u8 60), .lit (.int .u8 41), .lit (.int .u8 37), .lit (.int .u8 16), .lit (.int .u8 46), .lit (.int .u8 35), .lit (.int .u8 44), .lit (.int .u8 21), .lit (.int .u8 52), .lit (.int .u8 32), .lit (.int .u8 23), .lit (.int .u8 11), .lit (.int .u8 54), .lit (.int .u8 26), .lit (.int .u8 40), .lit (.int .u8 15), .lit (.int .u8 34), .lit (.int .u8 20), .lit (.int .u8 31), .lit (.int .u8 10), .lit (.int .u8 25), .lit (.int .u8 14), .lit (.int .u8 19), .lit (.int .u8 9), .lit (.int .u8 13), .lit (.int .u8 8), .lit (.int .u8 7), .lit (.int .u8 6)]
def laid_example_com_oriel_oriel_chunkenc_ErrFull {H : Type} : DataW H := .iface "*errors.errorString" (.ptr (.agg [.lit (.string [99, 104, 117, 110, 107, 32, 104, 111, 108, 100, 115, 32, 116, 104, 101, 32, 109, 111, 115, 116, 32, 115, 97, 109, 112, 108, 101, 115, 32, 105, 116, 32, 99, 97, 110])]))

/-- 'chunkenc.LawS6453AWhole': WHATEVER THE INPUT: true; the input reads as it did. -/
def lawS6453AWholeSpec : ChangeSpec := { name := "lawS6453AWhole", vars := ["example.com/oriel/oriel/chunkenc.ErrFull"], fn := fun _ => fun
  | [d1, d2, d3, g1] => { results := [.lit (.bool true)], args := [d1, d2, d3], vars := [g1] }
  | _ => none }
def lawS6453AWholeRow : OpenClaim := { program := "ybulkecpsfmt", sum := "53ecb9a9ee60827b8b784caa7390b0352962e4130c3dcec917f058804562b611", func := "example.com/oriel/oriel/chunkenc.LawS6453AWhole", spec := "lawS6453AWhole", stops := ["fmt.errorf"], inPlace := ["math.Float64bits", "fmt.errorf"], unfollowed := true, recurses := true, named := ["example.com/oriel/oriel/chunkenc.ErrFull", "encoding/binary.BigEndian", "math/bits.deBruijn64tab"], ifaces := true, apart := false, laid := [("math/bits.deBruijn64tab", laid_math_bits_deBruijn64tab), ("example.com/oriel/oriel/chunkenc.ErrFull", laid_example_com_oriel_oriel_chunkenc_ErrFull)] }
/-- NO THEOREM (fmt's text is open here; it may be false): for the released tool's asking of the row's closed facts alone. THE STATEMENT IS 'LawS6453AWholeToldSaid' (YbulkecpsFmtCards.lean). -/
def LawS6453AWholeFormAsk : Prop := lawS6453AWholeRow.holds Ybaf.pinned (OpenSpec.ofChange lawS6453AWholeSpec)

/-- ITS FALSE NEIGHBOUR: 'it returns false'. Refute it at one input. -/
def lawS6453AWholeWrong : ChangeSpec := { name := "lawS6453AWhole", vars := ["example.com/oriel/oriel/chunkenc.ErrFull"], fn := fun _ => fun
  | [d1, d2, d3, g1] => { results := [.lit (.bool false)], args := [d1, d2, d3], vars := [g1] }
  | _ => none }
def LawS6453AWholeWrongFormAsk : Prop := lawS6453AWholeRow.holds Ybaf.pinned (OpenSpec.ofChange lawS6453AWholeWrong)

/-- 'chunkenc.LawS6453AFull': WHATEVER THE INPUT: true; the input reads as it did. -/
def lawS6453AFullSpec : ChangeSpec := { name := "lawS6453AFull", vars := ["example.com/oriel/oriel/chunkenc.ErrFull"], fn := fun _ => fun
  | [d1, d2, d3, g1] => { results := [.lit (.bool true)], args := [d1, d2, d3], vars := [g1] }
  | _ => none }
def lawS6453AFullRow : OpenClaim := { program := "ybulkecpsfmt", sum := "53ecb9a9ee60827b8b784caa7390b0352962e4130c3dcec917f058804562b611", func := "example.com/oriel/oriel/chunkenc.LawS6453AFull", spec := "lawS6453AFull", stops := ["fmt.errorf"], inPlace := ["fmt.errorf", "math.Float64bits"], unfollowed := true, recurses := true, named := ["example.com/oriel/oriel/chunkenc.ErrFull", "encoding/binary.BigEndian", "math/bits.deBruijn64tab"], ifaces := true, apart := false, laid := [("math/bits.deBruijn64tab", laid_math_bits_deBruijn64tab), ("example.com/oriel/oriel/chunkenc.ErrFull", laid_example_com_oriel_oriel_chunkenc_ErrFull)] }
/-- NO THEOREM (fmt's text is open here; it may be false): for the released tool's asking of the row's closed facts alone. THE STATEMENT IS 'LawS6453AFullToldSaid' (YbulkecpsFmtCards.lean). -/
def LawS6453AFullFormAsk : Prop := lawS6453AFullRow.holds Ybaf.pinned (OpenSpec.ofChange lawS6453AFullSpec)

/-- ITS FALSE NEIGHBOUR: 'it returns false'. Refute it at one input. -/
def lawS6453AFullWrong : ChangeSpec := { name := "lawS6453AFull", vars := ["example.com/oriel/oriel/chunkenc.ErrFull"], fn := fun _ => fun
  | [d1, d2, d3, g1] => { results := [.lit (.bool false)], args := [d1, d2, d3], vars := [g1] }
  | _ => none }
def LawS6453AFullWrongFormAsk : Prop := lawS6453AFullRow.holds Ybaf.pinned (OpenSpec.ofChange lawS6453AFullWrong)

end Rows
end Go.Proofs.YbulkecpsFmt
