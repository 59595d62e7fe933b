import Derived.Test.YbulkecpeEqs
namespace Go.Proofs.Ybulkecpe
open Go.ChangeShapes Go.WideShapes Go.ChangeAt Go.RowKit
set_option maxRecDepth 100000

set_option maxHeartbeats 1000000 in
theorem law2 (a0 a1 : Int) (a2 : ByteArray) (a3 : Int) (a4 a5 : Bool) (w0 : (Lit.int .u8 a0).wf = true) (w1 : (Lit.int .u8 a1).wf = true) (w3 : (Lit.int .u8 a3).wf = true) (w : World) (hk : a0 % 6 = 2) :
    Calls Yba.prog 3 #[.int .u8 a0, .int .u8 a1, .string a2, .int .u8 a3, .bool a4, .bool a5] w fun e w' => e = .returned (.bool true) ∧ Grown w w' := by
  have b0 := bounds_u8 w0
  have b3 := bounds_u8 w3
  have s43 := s43
  have s22e := s22e
  have hd : a3 % 3 = 0 ∨ a3 % 3 = 1 ∨ a3 % 3 = 2 := by omega
  cases a5
  · rcases hd with hd | hd | hd
    all_goals
      go_enter Yba.func3, Yba.ntmps3
      go_wp2_with (first | (go_at_call 4; refine (name_any _ _ w1 _).mono ?_; rintro e w' ⟨nm, rfl, rfl⟩) | (go_at_call 5; refine (top_nil _ (w.heap.size + 1 + 1) (.pointer (some ⟨w.heap.size, 0, none⟩)) _ (by simp [go_sem]) (by simp [go_sem])).mono ?_; rintro e w' ⟨rfl, rfl⟩))
      go_ret
      exact ⟨rfl, by go_grown⟩
  · rcases hd with hd | hd | hd
    all_goals
      go_enter Yba.func3, Yba.ntmps3
      go_wp2_with (first | (go_at_call 4; refine (name_any _ _ w1 _).mono ?_; rintro e w' ⟨nm, rfl, rfl⟩) | (go_at_call 5; refine (top_nil _ (w.heap.size + 1 + 1) (.pointer none) _ (by simp [go_sem]) (by simp [go_sem])).mono ?_; rintro e w' ⟨rfl, rfl⟩))
      go_ret
      exact ⟨rfl, by go_grown⟩
end Go.Proofs.Ybulkecpe
