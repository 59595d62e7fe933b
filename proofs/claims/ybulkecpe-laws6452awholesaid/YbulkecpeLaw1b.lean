import Derived.Test.YbulkecpeLaw1
namespace Go.Proofs.Ybulkecpe
open Go.ChangeShapes Go.WideShapes Go.ChangeAt Go.RowKit
set_option maxRecDepth 100000

set_option maxHeartbeats 1000000 in
theorem law1_f1t (a0 a1 : Int) (a2 : ByteArray) (a3 : Int) (w0 : (Lit.int .u8 a0).wf = true) (w1 : (Lit.int .u8 a1).wf = true) (w3 : (Lit.int .u8 a3).wf = true) (w : World) (hk : a0 % 6 = 1) (hd : a3 % 3 = 1) :
    Calls Yba.prog 3 #[.int .u8 a0, .int .u8 a1, .string a2, .int .u8 a3, .bool true, .bool false] w fun e w' => e = .returned (.bool true) ∧ Grown w w' := by
  have b0 := bounds_u8 w0
  have b3 := bounds_u8 w3
  have s43 := s43
  have s22e := s22e
  have s22n := s22n
  have s24 := s24
  have ho := fun (o1 o2 o3 : Obj) (c1 : Array Value) (t1 : TypeId) (c2 : Array Value) (t2 : TypeId) => eql_other (a := w.heap.size + 1) (b := w.heap.size) (by omega) ((((Has.new1 w (.cells c1 t1) c2 t2).alloc o1).alloc o2).alloc o3) (((((Has.new w c1 t1).alloc (.cells c2 t2)).alloc o1).alloc o2).alloc o3)
  go_enter Yba.func3, Yba.ntmps3
  go_wp2_with (first | (go_at_call 4; refine (name_any _ _ w1 _).mono ?_; rintro e w' ⟨nm, rfl, rfl⟩) | (go_at_call 5; refine (top_iface _ (w.heap.size + 1 + 1) _ (some ⟨w.heap.size, 0, none⟩) (some ⟨w.heap.size + 1, 0, none⟩) true false _ (by simp [go_sem]) (by simp [go_sem]) (by simp [go_sem]) (by simp [go_sem]) (ho _ _ _ _ _ _ _)).mono ?_; rintro e w' ⟨rfl, rfl⟩))
  go_ret
  exact ⟨rfl, by go_grown⟩

set_option maxHeartbeats 1000000 in
theorem law1_f1f (a0 a1 : Int) (a2 : ByteArray) (a3 : Int) (w0 : (Lit.int .u8 a0).wf = true) (w1 : (Lit.int .u8 a1).wf = true) (w3 : (Lit.int .u8 a3).wf = true) (w : World) (hk : a0 % 6 = 1) (hd : a3 % 3 = 1) :
    Calls Yba.prog 3 #[.int .u8 a0, .int .u8 a1, .string a2, .int .u8 a3, .bool false, .bool false] w fun e w' => e = .returned (.bool true) ∧ Grown w w' := by
  have b0 := bounds_u8 w0
  have b3 := bounds_u8 w3
  have s43 := s43
  have s22e := s22e
  have s22n := s22n
  have s24 := s24
  have ho := fun (o1 o2 o3 : Obj) (c1 : Array Value) (t1 : TypeId) (c2 : Array Value) (t2 : TypeId) => eql_other (a := w.heap.size + 1) (b := w.heap.size) (by omega) ((((Has.new1 w (.cells c1 t1) c2 t2).alloc o1).alloc o2).alloc o3) (((((Has.new w c1 t1).alloc (.cells c2 t2)).alloc o1).alloc o2).alloc o3)
  go_enter Yba.func3, Yba.ntmps3
  go_wp2_with (first | (go_at_call 4; refine (name_any _ _ w1 _).mono ?_; rintro e w' ⟨nm, rfl, rfl⟩) | (go_at_call 5; refine (top_iface _ (w.heap.size + 1 + 1) _ (some ⟨w.heap.size, 0, none⟩) (some ⟨w.heap.size + 1, 0, none⟩) false false _ (by simp [go_sem]) (by simp [go_sem]) (by simp [go_sem]) (by simp [go_sem]) (ho _ _ _ _ _ _ _)).mono ?_; rintro e w' ⟨rfl, rfl⟩))
  go_ret
  exact ⟨rfl, by go_grown⟩
end Go.Proofs.Ybulkecpe
