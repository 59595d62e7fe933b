import Derived.Test.YbulkecpsFmtLib
import Derived.Stop.CallBack
import Derived.Stop.IfaceNil
import GoSem.ClaimData
namespace Go.Proofs.YbulkecpsFmt
open Go.ChangeShapes Go.WideShapes Go.ChangeAt Go.RowKit Go.Extern.Stop Go.Stop Go.Extern
set_option maxRecDepth 100000

/-- The format. -/
def fmtT : ByteArray := ⟨#[115, 97, 109, 112, 108, 101, 32, 97, 116, 32, 37, 100, 32, 105, 115, 32, 110, 111, 116, 32, 108, 97, 116, 101, 114, 32, 116, 104, 97, 110, 32, 116, 104, 101, 32, 111, 110, 101, 32, 98, 101, 102, 111, 114, 101, 32, 105, 116, 44, 32, 97, 116, 32, 37, 100]⟩
@[go_sem] theorem Ybaf.call26 (args : Array Value) (w : World) : (callFunc 26 args).run Ybaf.prog w = ((FmtStop.errorf #[9, 66] #[35] args).run Ybaf.prog w).andThen fun v w' => .ok (.value v) w' :=
  run_callFunc_extern Ybaf.func26 (by kernel_rfl) (by kernel_rfl) (by kernel_rfl) (by kernel_rfl) args w
@[go_sem] theorem Ybaf.guard (name : String) (w : World) : (FmtStop.guard name).run Ybaf.prog w = .ok () w := by kernel_rfl
@[go_sem] theorem Ybaf.fmt0 : FmtStop.printed? ⟨#[115, 97, 109, 112, 108, 101, 32, 97, 116, 32, 37, 100, 32, 105, 115, 32, 110, 111, 116, 32, 108, 97, 116, 101, 114, 32, 116, 104, 97, 110, 32, 116, 104, 101, 32, 111, 110, 101, 32, 98, 101, 102, 111, 114, 101, 32, 105, 116, 44, 32, 97, 116, 32, 37, 100]⟩ 2 = some [(0, 100, false), (1, 100, false)] := by kernel_rfl
@[go_sem] theorem Ybaf.fmt0r (w : World) : (FmtDoors.printed ⟨#[115, 97, 109, 112, 108, 101, 32, 97, 116, 32, 37, 100, 32, 105, 115, 32, 110, 111, 116, 32, 108, 97, 116, 101, 114, 32, 116, 104, 97, 110, 32, 116, 104, 101, 32, 111, 110, 101, 32, 98, 101, 102, 111, 114, 101, 32, 105, 116, 44, 32, 97, 116, 32, 37, 100]⟩ 2).run Ybaf.prog w = .ok [(0, 100, false), (1, 100, false)] w := by kernel_rfl
def Ybaf.shape2 : List UInt8 := [5, 5, 0, 0, 0, 0, 0, 0, 0, 105, 110, 116, 54, 52]
@[go_sem] theorem Ybaf.op2_100w (name : String) (x : Int) (w : World) : (FmtStop.operand name true 100 false (.iface 2 (.int .i64 x))).run Ybaf.prog w = .ok (Ybaf.shape2, Go.Extern.Stop.digits 8 (x % 2 ^ 64).toNat) w := by kernel_rfl
@[go_sem] theorem Ybaf.ptr71 (w : World) : (FmtStop.ptrTo "errors.errorString").run Ybaf.prog w = .ok 71 w := by kernel_rfl
@[go_sem] theorem Ybaf.elem71 (w : World) : (elemOf 71).run Ybaf.prog w = .ok 73 w := by kernel_rfl

set_option maxHeartbeats 1000000 in
/-- fmt.Errorf of two int64s: a new error. -/
theorem errorf_two (a b : Int) (blk : Nat) (w : World) (h0 : w.cell? ⟨blk, 0, none⟩ = some (.iface 2 (.int .i64 a))) (h1 : w.cell? ⟨blk, 1, none⟩ = some (.iface 2 (.int .i64 b))) :
    Calls Ybaf.prog 18 #[.string fmtT, .slice (some ⟨blk, 0, none⟩) 2 2] w fun e w' => e = .returned (.iface 71 (.pointer (some ⟨w.heap.size, 0, none⟩))) ∧ ∃ t : ByteArray, w' = (w.alloc (.cells #[.string t] 73)).drew := by
  unfold fmtT
  go_enter Ybaf.func18, Ybaf.ntmps18
  go_wp2
  go_ret
  exact ⟨rfl, _, rfl⟩
end Go.Proofs.YbulkecpsFmt
