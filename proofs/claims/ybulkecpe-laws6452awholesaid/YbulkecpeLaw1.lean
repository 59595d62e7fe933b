import Derived.Test.YbulkecpeEqs
namespace Go.Proofs.Ybulkecpe
open Go.ChangeShapes Go.WideShapes Go.ChangeAt Go.RowKit
set_option maxRecDepth 100000

theorem s22p (p : Option Addr) (w : World) : (binOp .eql 22 (.pointer p) (.pointer none)).run Yba.prog w = .ok (.bool p.isNone) w := run_eql_pointer_nil w 22 p (by kernel_rfl)
theorem s24 (w : World) : (binOp .neq 24 (.slice none 0 0) (.slice none 0 0)).run Yba.prog w = .ok (.bool false) w := by kernel_rfl


set_option maxHeartbeats 1000000 in
theorem law1_t0t (a0 a1 : Int) (a2 : ByteArray) (a3 : Int) (w0 : (Lit.int .u8 a0).wf = true) (w1 : (Lit.int .u8 a1).wf = true) (w3 : (Lit.int .u8 a3).wf = true) (w : World) (hk : a0 % 6 = 1) (hd : a3 % 3 = 0) :
    Calls Yba.prog 3 #[.int .u8 a0, .int .u8 a1, .string a2, .int .u8 a3, .bool true, .bool true] w fun e w' => e = .returned (.bool true) ∧ Grown w w' := by
  have b0 := bounds_u8 w0
  have b3 := bounds_u8 w3
  have s43 := s43
  have s22e := s22e
  have s22n := s22n
  have s22z := s22z
  have s24 := s24
  go_enter Yba.func3, Yba.ntmps3
  go_wp2_with (first | (go_at_call 4; refine (name_any _ _ w1 _).mono ?_; rintro e w' ⟨nm, rfl, rfl⟩) | (go_at_call 5; refine (top_iface _ (w.heap.size + 1 + 1) _ (none) (some ⟨w.heap.size, 0, none⟩) true false _ (by simp [go_sem]) (by simp [go_sem]) (by simp [go_sem]) (by simp [go_sem]) (s22p _ _)).mono ?_; rintro e w' ⟨rfl, rfl⟩))
  go_ret
  exact ⟨rfl, by go_grown⟩

set_option maxHeartbeats 1000000 in
theorem law1_t0f (a0 a1 : Int) (a2 : ByteArray) (a3 : Int) (w0 : (Lit.int .u8 a0).wf = true) (w1 : (Lit.int .u8 a1).wf = true) (w3 : (Lit.int .u8 a3).wf = true) (w : World) (hk : a0 % 6 = 1) (hd : a3 % 3 = 0) :
    Calls Yba.prog 3 #[.int .u8 a0, .int .u8 a1, .string a2, .int .u8 a3, .bool false, .bool true] w fun e w' => e = .returned (.bool true) ∧ Grown w w' := by
  have b0 := bounds_u8 w0
  have b3 := bounds_u8 w3
  have s43 := s43
  have s22e := s22e
  have s22n := s22n
  have s22z := s22z
  have s24 := s24
  go_enter Yba.func3, Yba.ntmps3
  go_wp2_with (first | (go_at_call 4; refine (name_any _ _ w1 _).mono ?_; rintro e w' ⟨nm, rfl, rfl⟩) | (go_at_call 5; refine (top_iface _ (w.heap.size + 1 + 1) _ (none) (some ⟨w.heap.size, 0, none⟩) false false _ (by simp [go_sem]) (by simp [go_sem]) (by simp [go_sem]) (by simp [go_sem]) (s22p _ _)).mono ?_; rintro e w' ⟨rfl, rfl⟩))
  go_ret
  exact ⟨rfl, by go_grown⟩

set_option maxHeartbeats 1000000 in
theorem law1_t1t (a0 a1 : Int) (a2 : ByteArray) (a3 : Int) (w0 : (Lit.int .u8 a0).wf = true) (w1 : (Lit.int .u8 a1).wf = true) (w3 : (Lit.int .u8 a3).wf = true) (w : World) (hk : a0 % 6 = 1) (hd : a3 % 3 = 1) :
    Calls Yba.prog 3 #[.int .u8 a0, .int .u8 a1, .string a2, .int .u8 a3, .bool true, .bool true] w fun e w' => e = .returned (.bool true) ∧ Grown w w' := by
  have b0 := bounds_u8 w0
  have b3 := bounds_u8 w3
  have s43 := s43
  have s22e := s22e
  have s22n := s22n
  have s22z := s22z
  have s24 := s24
  go_enter Yba.func3, Yba.ntmps3
  go_wp2_with (first | (go_at_call 4; refine (name_any _ _ w1 _).mono ?_; rintro e w' ⟨nm, rfl, rfl⟩) | (go_at_call 5; refine (top_iface _ (w.heap.size + 1 + 1) _ (none) (some ⟨w.heap.size + 1, 0, none⟩) true false _ (by simp [go_sem]) (by simp [go_sem]) (by simp [go_sem]) (by simp [go_sem]) (s22p _ _)).mono ?_; rintro e w' ⟨rfl, rfl⟩))
  go_ret
  exact ⟨rfl, by go_grown⟩

set_option maxHeartbeats 1000000 in
theorem law1_t1f (a0 a1 : Int) (a2 : ByteArray) (a3 : Int) (w0 : (Lit.int .u8 a0).wf = true) (w1 : (Lit.int .u8 a1).wf = true) (w3 : (Lit.int .u8 a3).wf = true) (w : World) (hk : a0 % 6 = 1) (hd : a3 % 3 = 1) :
    Calls Yba.prog 3 #[.int .u8 a0, .int .u8 a1, .string a2, .int .u8 a3, .bool false, .bool true] w fun e w' => e = .returned (.bool true) ∧ Grown w w' := by
  have b0 := bounds_u8 w0
  have b3 := bounds_u8 w3
  have s43 := s43
  have s22e := s22e
  have s22n := s22n
  have s22z := s22z
  have s24 := s24
  go_enter Yba.func3, Yba.ntmps3
  go_wp2_with (first | (go_at_call 4; refine (name_any _ _ w1 _).mono ?_; rintro e w' ⟨nm, rfl, rfl⟩) | (go_at_call 5; refine (top_iface _ (w.heap.size + 1 + 1) _ (none) (some ⟨w.heap.size + 1, 0, none⟩) false false _ (by simp [go_sem]) (by simp [go_sem]) (by simp [go_sem]) (by simp [go_sem]) (s22p _ _)).mono ?_; rintro e w' ⟨rfl, rfl⟩))
  go_ret
  exact ⟨rfl, by go_grown⟩

set_option maxHeartbeats 1000000 in
theorem law1_t2t (a0 a1 : Int) (a2 : ByteArray) (a3 : Int) (w0 : (Lit.int .u8 a0).wf = true) (w1 : (Lit.int .u8 a1).wf = true) (w3 : (Lit.int .u8 a3).wf = true) (w : World) (hk : a0 % 6 = 1) (hd : a3 % 3 = 2) :
    Calls Yba.prog 3 #[.int .u8 a0, .int .u8 a1, .string a2, .int .u8 a3, .bool true, .bool true] w fun e w' => e = .returned (.bool true) ∧ Grown w w' := by
  have b0 := bounds_u8 w0
  have b3 := bounds_u8 w3
  have s43 := s43
  have s22e := s22e
  have s22n := s22n
  have s22z := s22z
  have s24 := s24
  go_enter Yba.func3, Yba.ntmps3
  go_wp2_with (first | (go_at_call 4; refine (name_any _ _ w1 _).mono ?_; rintro e w' ⟨nm, rfl, rfl⟩) | (go_at_call 5; refine (top_iface _ (w.heap.size + 1 + 1) _ (none) (none) true true _ (by simp [go_sem]) (by simp [go_sem]) (by simp [go_sem]) (by simp [go_sem]) (s22p _ _)).mono ?_; rintro e w' ⟨rfl, rfl⟩))
  go_ret
  exact ⟨rfl, by go_grown⟩

set_option maxHeartbeats 1000000 in
theorem law1_t2f (a0 a1 : Int) (a2 : ByteArray) (a3 : Int) (w0 : (Lit.int .u8 a0).wf = true) (w1 : (Lit.int .u8 a1).wf = true) (w3 : (Lit.int .u8 a3).wf = true) (w : World) (hk : a0 % 6 = 1) (hd : a3 % 3 = 2) :
    Calls Yba.prog 3 #[.int .u8 a0, .int .u8 a1, .string a2, .int .u8 a3, .bool false, .bool true] w fun e w' => e = .returned (.bool true) ∧ Grown w w' := by
  have b0 := bounds_u8 w0
  have b3 := bounds_u8 w3
  have s43 := s43
  have s22e := s22e
  have s22n := s22n
  have s22z := s22z
  have s24 := s24
  go_enter Yba.func3, Yba.ntmps3
  go_wp2_with (first | (go_at_call 4; refine (name_any _ _ w1 _).mono ?_; rintro e w' ⟨nm, rfl, rfl⟩) | (go_at_call 5; refine (top_iface _ (w.heap.size + 1 + 1) _ (none) (none) false true _ (by simp [go_sem]) (by simp [go_sem]) (by simp [go_sem]) (by simp [go_sem]) (s22p _ _)).mono ?_; rintro e w' ⟨rfl, rfl⟩))
  go_ret
  exact ⟨rfl, by go_grown⟩

set_option maxHeartbeats 1000000 in
theorem law1_f0t (a0 a1 : Int) (a2 : ByteArray) (a3 : Int) (w0 : (Lit.int .u8 a0).wf = true) (w1 : (Lit.int .u8 a1).wf = true) (w3 : (Lit.int .u8 a3).wf = true) (w : World) (hk : a0 % 6 = 1) (hd : a3 % 3 = 0) :
    Calls Yba.prog 3 #[.int .u8 a0, .int .u8 a1, .string a2, .int .u8 a3, .bool true, .bool false] w fun e w' => e = .returned (.bool true) ∧ Grown w w' := by
  have b0 := bounds_u8 w0
  have b3 := bounds_u8 w3
  have s43 := s43
  have s22e := s22e
  have s22n := s22n
  have s22z := s22z
  have s24 := s24
  go_enter Yba.func3, Yba.ntmps3
  go_wp2_with (first | (go_at_call 4; refine (name_any _ _ w1 _).mono ?_; rintro e w' ⟨nm, rfl, rfl⟩) | (go_at_call 5; refine (top_iface _ (w.heap.size + 1 + 1) _ (some ⟨w.heap.size, 0, none⟩) (some ⟨w.heap.size, 0, none⟩) true true _ (by simp [go_sem]) (by simp [go_sem]) (by simp [go_sem]) (by simp [go_sem]) (s22e _ _)).mono ?_; rintro e w' ⟨rfl, rfl⟩))
  go_ret
  exact ⟨rfl, by go_grown⟩

set_option maxHeartbeats 1000000 in
theorem law1_f0f (a0 a1 : Int) (a2 : ByteArray) (a3 : Int) (w0 : (Lit.int .u8 a0).wf = true) (w1 : (Lit.int .u8 a1).wf = true) (w3 : (Lit.int .u8 a3).wf = true) (w : World) (hk : a0 % 6 = 1) (hd : a3 % 3 = 0) :
    Calls Yba.prog 3 #[.int .u8 a0, .int .u8 a1, .string a2, .int .u8 a3, .bool false, .bool false] w fun e w' => e = .returned (.bool true) ∧ Grown w w' := by
  have b0 := bounds_u8 w0
  have b3 := bounds_u8 w3
  have s43 := s43
  have s22e := s22e
  have s22n := s22n
  have s22z := s22z
  have s24 := s24
  go_enter Yba.func3, Yba.ntmps3
  go_wp2_with (first | (go_at_call 4; refine (name_any _ _ w1 _).mono ?_; rintro e w' ⟨nm, rfl, rfl⟩) | (go_at_call 5; refine (top_iface _ (w.heap.size + 1 + 1) _ (some ⟨w.heap.size, 0, none⟩) (some ⟨w.heap.size, 0, none⟩) false true _ (by simp [go_sem]) (by simp [go_sem]) (by simp [go_sem]) (by simp [go_sem]) (s22e _ _)).mono ?_; rintro e w' ⟨rfl, rfl⟩))
  go_ret
  exact ⟨rfl, by go_grown⟩

set_option maxHeartbeats 1000000 in
theorem law1_f2t (a0 a1 : Int) (a2 : ByteArray) (a3 : Int) (w0 : (Lit.int .u8 a0).wf = true) (w1 : (Lit.int .u8 a1).wf = true) (w3 : (Lit.int .u8 a3).wf = true) (w : World) (hk : a0 % 6 = 1) (hd : a3 % 3 = 2) :
    Calls Yba.prog 3 #[.int .u8 a0, .int .u8 a1, .string a2, .int .u8 a3, .bool true, .bool false] w fun e w' => e = .returned (.bool true) ∧ Grown w w' := by
  have b0 := bounds_u8 w0
  have b3 := bounds_u8 w3
  have s43 := s43
  have s22e := s22e
  have s22n := s22n
  have s22z := s22z
  have s24 := s24
  go_enter Yba.func3, Yba.ntmps3
  go_wp2_with (first | (go_at_call 4; refine (name_any _ _ w1 _).mono ?_; rintro e w' ⟨nm, rfl, rfl⟩) | (go_at_call 5; refine (top_iface _ (w.heap.size + 1 + 1) _ (some ⟨w.heap.size, 0, none⟩) (none) true false _ (by simp [go_sem]) (by simp [go_sem]) (by simp [go_sem]) (by simp [go_sem]) (s22z _ _)).mono ?_; rintro e w' ⟨rfl, rfl⟩))
  go_ret
  exact ⟨rfl, by go_grown⟩

set_option maxHeartbeats 1000000 in
theorem law1_f2f (a0 a1 : Int) (a2 : ByteArray) (a3 : Int) (w0 : (Lit.int .u8 a0).wf = true) (w1 : (Lit.int .u8 a1).wf = true) (w3 : (Lit.int .u8 a3).wf = true) (w : World) (hk : a0 % 6 = 1) (hd : a3 % 3 = 2) :
    Calls Yba.prog 3 #[.int .u8 a0, .int .u8 a1, .string a2, .int .u8 a3, .bool false, .bool false] w fun e w' => e = .returned (.bool true) ∧ Grown w w' := by
  have b0 := bounds_u8 w0
  have b3 := bounds_u8 w3
  have s43 := s43
  have s22e := s22e
  have s22n := s22n
  have s22z := s22z
  have s24 := s24
  go_enter Yba.func3, Yba.ntmps3
  go_wp2_with (first | (go_at_call 4; refine (name_any _ _ w1 _).mono ?_; rintro e w' ⟨nm, rfl, rfl⟩) | (go_at_call 5; refine (top_iface _ (w.heap.size + 1 + 1) _ (some ⟨w.heap.size, 0, none⟩) (none) false false _ (by simp [go_sem]) (by simp [go_sem]) (by simp [go_sem]) (by simp [go_sem]) (s22z _ _)).mono ?_; rintro e w' ⟨rfl, rfl⟩))
  go_ret
  exact ⟨rfl, by go_grown⟩
end Go.Proofs.Ybulkecpe
