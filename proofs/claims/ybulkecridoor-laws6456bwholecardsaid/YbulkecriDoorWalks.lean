import Derived.Test.YbulkecriDoorRows
import Derived.Test.YbulkecriDoorPlain
import Derived.OpenShut
import Derived.Outline
import Derived.Handy
import Derived.Deep.QuietTactic
import Derived.BigQuiet
import Derived.WalkSmall
import Derived.Deep.RegionHeld3
namespace Go.Proofs.YbulkecriDoor
open Go.ChangeShapes Go.WideShapes Go.ChangeAt Go.RowKit
set_option maxRecDepth 100000

/-- Nothing old has turned, said cell by cell too. -/
def Kept (w w' : World) : Prop := Below w.heap.size w w' ∧ (∀ b o, b < w.heap.size → w'.cell? ⟨b, o, none⟩ = w.cell? ⟨b, o, none⟩) ∧ (∀ b o, b < w.heap.size → w'.frozen? ⟨b, o, none⟩ = w.frozen? ⟨b, o, none⟩) ∧ w.heap.size ≤ w'.heap.size
theorem Kept.of {w w' : World} (h : Below w.heap.size w w') : Kept w w' := ⟨h, fun b o hb => h.cell (p := ⟨b, o, none⟩) hb, fun b o hb => h.frozen (p := ⟨b, o, none⟩) hb, h.size⟩

theorem setBit_any (hi lo n : Nat) (w : World) (h1 : hi < 18446744073709551616) (h2 : lo < 18446744073709551616) :
    Calls Ybad.prog 14 #[.agg #[.int .u64 hi, .int .u64 lo], .int .u64 n] w fun e w' => e = .returned (.agg #[.int .u64 (setHi hi n), .int .u64 (setLo lo n)]) ∧ Kept w w' := by
  have e1 := setHi_eq hi n h1
  have e2 := setLo_eq lo n h2
  go_enter Ybad.func14, Ybad.ntmps14
  go_wp2
  go_returns
  exact ⟨rfl, Kept.of (by go_grown)⟩

theorem quiet_any (a b c : Nat) (w : World) : Calls Ybad.prog 15 #[.agg #[.int .u64 a, .int .u64 b, .int .u64 c]] w fun e w' => e = .returned (.int .u64 (sub1 b)) ∧ Kept w w' := by
  have e1 := sub1_eq b
  go_enter Ybad.func15, Ybad.ntmps15
  go_wp2
  go_ret
  exact ⟨rfl, Kept.of (by go_grown)⟩

theorem shl_any (lo n : Nat) (w : World) (h2 : lo < 18446744073709551616) (hn : n < 18446744073709551616) :
    Calls Ybad.prog 13 #[.agg #[.int .u64 0, .int .u64 lo], .int .u64 n] w fun e w' => e = .returned (.agg #[.int .u64 (shlHi lo n), .int .u64 (shlLo lo n)]) ∧ Kept w w' := by
  by_cases h : n < 64
  · have e1 := shl_q1 lo n h2 h
    have e2 := shl_q2 lo n h
    go_enter Ybad.func13, Ybad.ntmps13
    go_wp2
    go_returns
    exact ⟨rfl, Kept.of (by go_grown)⟩
  · have h64 : (64 : Int) ≤ (n : Int) := by omega
    have e1 := shl_q3 lo n (by omega) hn
    have e2 := shl_q4 lo n (by omega)
    have HE : Hid (shlLo lo n = 0) := e2
    clear e2 hn
    go_enter Ybad.func13, Ybad.ntmps13
    go_wp2
    go_returns
    exact ⟨by rw [HE.out]; rfl, Kept.of (by go_grown)⟩

end Go.Proofs.YbulkecriDoor
