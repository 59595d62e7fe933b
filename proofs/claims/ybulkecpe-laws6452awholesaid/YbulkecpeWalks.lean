import Derived.Test.YbulkecpeRows
import Derived.WalkKit
import Derived.ProofKit
import Derived.OpenShut
import Derived.ShutString
import Derived.Outline
import Derived.Handy
import Derived.Deep.QuietTactic
import Derived.BigQuiet
import Derived.LaidEqlPtr
namespace Go.Proofs.Ybulkecpe
open Go.ChangeShapes Go.WideShapes Go.ChangeAt Go.RowKit
set_option maxRecDepth 100000

section
variable {P : Program}
/-- 'x, ok := v.(*T)': v holds a *T. -/
theorem run_ta_yes {T xT e : TypeId} (hu : P.underlying T = some (.pointer e)) (v : Value) (w : World) :
    (Instr.typeAssert (.iface T v) xT T true).run P w = .ok (.tuple #[v, .bool true]) w := by
  simp [Instr.typeAssert, run_underlying hu]
/-- 'x, ok := v.(*T)': v holds another type. -/
theorem run_ta_no {T xT t e : TypeId} (hu : P.underlying T = some (.pointer e)) (hz : (P.info? T).map (·.zero) = some (some (.pointer none))) (ht : (t == T) = false) (v : Value) (w : World) :
    (Instr.typeAssert (.iface t v) xT T true).run P w = .ok (.tuple #[.pointer none, .bool false]) w := by
  have ht' : t ≠ T := by simpa using ht
  obtain ⟨i, hi, hz'⟩ := Option.map_eq_some_iff.1 hz
  simp [Instr.typeAssert, run_underlying hu, ht', zeroValue, typeInfo, hi, hz']
/-- 'x, ok := v.(*T)': v is nil. -/
theorem run_ta_nil {T xT e : TypeId} (hu : P.underlying T = some (.pointer e)) (hz : (P.info? T).map (·.zero) = some (some (.pointer none))) (w : World) :
    (Instr.typeAssert .nilIface xT T true).run P w = .ok (.tuple #[.pointer none, .bool false]) w := by
  obtain ⟨i, hi, hz'⟩ := Option.map_eq_some_iff.1 hz
  simp [Instr.typeAssert, run_underlying hu, zeroValue, typeInfo, hi, hz']
end
theorem z59 : (Yba.prog.info? 59).map (·.zero) = some (some (.pointer none)) := by kernel_rfl
theorem z60 : (Yba.prog.info? 60).map (·.zero) = some (some (.pointer none)) := by kernel_rfl

/-- 'zzs6452aname' only chooses a string. -/
theorem name_any (a : Int) (s : ByteArray) (w0 : (Lit.int .u8 a).wf = true) (w : World) :
    Calls Yba.prog 4 #[.int .u8 a, .string s] w fun e w' => ∃ nm : ByteArray, e = .returned (.string nm) ∧ w' = w := by
  have hb := bounds_u8 w0
  by_cases c0 : a % 5 = 0
  · go_enter Yba.func4, Yba.ntmps4
    go_wp2
    go_ret
    exact ⟨_, rfl, rfl⟩
  by_cases c1 : a % 5 = 1
  · go_enter Yba.func4, Yba.ntmps4
    go_wp2
    go_ret
    exact ⟨_, rfl, rfl⟩
  by_cases c2 : a % 5 = 2
  · go_enter Yba.func4, Yba.ntmps4
    go_wp2
    go_ret
    exact ⟨_, rfl, rfl⟩
  by_cases c3 : a % 5 = 3
  · go_enter Yba.func4, Yba.ntmps4
    go_wp2
    go_ret
    exact ⟨_, rfl, rfl⟩
  go_enter Yba.func4, Yba.ntmps4
  go_wp2
  go_ret
  exact ⟨_, rfl, rfl⟩


/-- 'isTop' of a *Special: its name is not Never. -/
theorem top_special (c : Value) (b : Nat) (nm : ByteArray) (w : World) (h : w.cell? ⟨b, 0, none⟩ = some (.string nm)) :
    Calls Yba.prog 5 #[c, .iface 59 (.pointer (some ⟨b, 0, none⟩))] w fun e w' => e = .returned (.bool (!(nm.toList == [78, 101, 118, 101, 114]))) ∧ w' = w := by
  have t1 := fun v xT w => run_ta_yes (P := Yba.prog) (xT := xT) Yba.underlying59 v w
  go_enter Yba.func5, Yba.ntmps5
  go_wp2
  go_ret
  exact ⟨rfl, rfl⟩

/-- 'isTop' of what is neither a *Special nor an *Interface: false. -/
theorem top_other (c k : Nat) (x : Value) (t : TypeId) (v : Value) (w : World) (hc : w.cell? ⟨c, 1, none⟩ = some (.pointer (some ⟨k, 0, none⟩))) (hk : w.cell? ⟨k, 1, none⟩ = some x)
    (h1 : (t == 59) = false) (h2 : (t == 60) = false) :
    Calls Yba.prog 5 #[.pointer (some ⟨c, 0, none⟩), .iface t v] w fun e w' => e = .returned (.bool false) ∧ w' = w := by
  have t1 := fun v xT w => run_ta_no (P := Yba.prog) (xT := xT) (t := t) Yba.underlying59 z59 h1 v w
  have t2 := fun v xT w => run_ta_no (P := Yba.prog) (xT := xT) (t := t) Yba.underlying60 z60 h2 v w
  go_enter Yba.func5, Yba.ntmps5
  go_wp2
  go_ret
  exact ⟨rfl, rfl⟩

theorem top_nil (c k : Nat) (x : Value) (w : World) (hc : w.cell? ⟨c, 1, none⟩ = some (.pointer (some ⟨k, 0, none⟩))) (hk : w.cell? ⟨k, 1, none⟩ = some x) :
    Calls Yba.prog 5 #[.pointer (some ⟨c, 0, none⟩), .nilIface] w fun e w' => e = .returned (.bool false) ∧ w' = w := by
  have t1 := fun xT w => run_ta_nil (P := Yba.prog) (xT := xT) Yba.underlying59 z59 w
  have t2 := fun xT w => run_ta_nil (P := Yba.prog) (xT := xT) Yba.underlying60 z60 w
  go_enter Yba.func5, Yba.ntmps5
  go_wp2
  go_ret
  exact ⟨rfl, rfl⟩

theorem top_iface (c k i : Nat) (x y : Option Addr) (n r : Bool) (w : World) (hc : w.cell? ⟨c, 1, none⟩ = some (.pointer (some ⟨k, 0, none⟩))) (hk : w.cell? ⟨k, 1, none⟩ = some (.pointer x))
    (hi : w.cell? ⟨i, 1, none⟩ = some (.pointer y)) (hn : w.cell? ⟨i, 3, none⟩ = some (.bool n)) (he : (binOp .eql 22 (.pointer y) (.pointer x)).run Yba.prog w = .ok (.bool r) w) :
    Calls Yba.prog 5 #[.pointer (some ⟨c, 0, none⟩), .iface 60 (.pointer (some ⟨i, 0, none⟩))] w fun e w' => e = .returned (.bool (r && n)) ∧ w' = w := by
  have t1 := fun v xT w => run_ta_no (P := Yba.prog) (xT := xT) (t := 60) Yba.underlying59 z59 rfl v w
  have t2 := fun v xT w => run_ta_yes (P := Yba.prog) (xT := xT) Yba.underlying60 v w
  cases r
  · go_enter Yba.func5, Yba.ntmps5
    go_wp2
    go_ret
    exact ⟨rfl, rfl⟩
  · go_enter Yba.func5, Yba.ntmps5
    go_wp2
    go_ret
    exact ⟨rfl, rfl⟩
end Go.Proofs.Ybulkecpe
