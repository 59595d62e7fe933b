/-
  No cell of these rows narrows 'for every input' (looked for: loops, veiled, ifaces, maps, wideKeys, modest, calm, conditions, laid).
  DERIVED. THE GIVEN ROWS OF THIS SEAT. 1 by the template 'for every input the law returns true; each argument reads behind the call as it read before'; 0 by the template 'total and deterministic' (their statements: YbulkecpeTotals.lean).
  GIVEN WITH THE SEED: the statements are not yours to turn. If you find one false, say at which input.
  Laid BY PROGRAM, IN A SANDBOX (cutbox-rows.mjs): the forced cells as the released guide's own fill.sh prints them over the translation cc47e749a8fb8eb5… (all of the seat's roots in one cut). By AI agents, Wed Nov 11 2026. No macro, syntax, notation, axiom, sorry.
-/
import Derived.Test.YbulkecpeChecked
import GoSem.Claim
import GoSem.ClaimJoined
import GoSem.ClaimMapViews
import Derived.JoinedTies
import Derived.KernelRfl
namespace Go.Proofs.Ybulkecpe
/- THE CELL 'sum', in the pinned program and in every row, IS THE sha256 OF THE DUMP (.gsa) THAT YbulkecpeProg.lean LOADS. Nothing in Lean hashes anything: it is a label: what it is worth is what the hold of that sum in a sandbox is worth. -/
noncomputable def Yba.pinned : Pinned := { name := "ybulkecpe", sum := "cc47e749a8fb8eb5fa96d8f04eeb723e516a7d573b450ed4b9f6f1e2ebbcf62e", checked := Yba.checked }
namespace Rows
def none {H : Type} : Left H := { results := [], args := [] }

/-- 'types.LawS6452AWhole': WHATEVER THE INPUT: true; the input reads as it did. -/
def lawS6452AWholeSpec : ChangeSpec := { name := "lawS6452AWhole", fn := fun _ => fun
  | [d1, d2, d3, d4, d5, d6] => { results := [.lit (.bool true)], args := [d1, d2, d3, d4, d5, d6] }
  | _ => none }
def lawS6452AWholeRow : OpenClaim := { program := "ybulkecpe", sum := "cc47e749a8fb8eb5fa96d8f04eeb723e516a7d573b450ed4b9f6f1e2ebbcf62e", func := "example.com/covaria/covaria/types.LawS6452AWhole", spec := "lawS6452AWhole", unfollowed := true, recurses := true, plainKeys := false, apart := false }
def LawS6452AWholeSaid : Prop := lawS6452AWholeRow.holds Yba.pinned (OpenSpec.ofChange lawS6452AWholeSpec)

/-- ITS FALSE NEIGHBOUR: 'it returns false'. Refute it at one input. -/
def lawS6452AWholeWrong : ChangeSpec := { name := "lawS6452AWhole", fn := fun _ => fun
  | [d1, d2, d3, d4, d5, d6] => { results := [.lit (.bool false)], args := [d1, d2, d3, d4, d5, d6] }
  | _ => none }
def LawS6452AWholeWrongFalsely : Prop := lawS6452AWholeRow.holds Yba.pinned (OpenSpec.ofChange lawS6452AWholeWrong)

end Rows
end Go.Proofs.Ybulkecpe
