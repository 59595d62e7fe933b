import Derived.Test.YbulkecriDoorNan
import Derived.Test.YbulkecriDoorModelBigTrue
import Derived.Test.YbulkecriDoorModelBigFalse
import Derived.Test.YbulkecriDoorModelSmallTrue
import Derived.Test.YbulkecriDoorModelSmallFalse
namespace Go.Proofs.YbulkecriDoor
open Go.ChangeShapes Go.WideShapes Go.ChangeAt Go.RowKit
set_option maxRecDepth 100000

/-- The model gives the code's two words. -/
theorem model_any (e f : Nat) (neg : Bool) (w : World) :
    Calls Ybad.prog 8 #[.int .u64 e, .int .u64 f, .bool neg] w fun r w' => r = .returned (.tuple #[.int .u64 (nanHi e f neg), .int .u64 (nanLo e f neg)]) ∧ w' = w := by
  rw [hi_eq, lo_eq]
  cases neg
  · by_cases h : 64 < e
    · exact model_big_false e f w h
    · exact model_small_false e f w (by omega)
  · by_cases h : 64 < e
    · exact model_big_true e f w h
    · exact model_small_true e f w (by omega)

set_option maxHeartbeats 1000000 in
theorem law_any (e f z c : Nat) (a : Int) (neg : Bool) (w : World) (hf : f < 18446744073709551616) (ha : 0 ≤ a) (ha' : a ≤ 255) (hac : a % 3 = (c : Nat)) (hc : c < 3) (hn : ((c : Int) == 2) = neg) (hg : w.cell? ⟨0, c * 3 + 2, none⟩ = some (.bool neg)) (h0 : 0 < w.heap.size) :
    Calls Ybad.prog 4 #[.int .u64 e, .int .u64 f, .int .u64 z, .int .u8 a] w fun r w' => r = .returned (.bool true) ∧ Below w.heap.size w w' := by
  have HF : Hid (f < 18446744073709551616) := hf
  clear hf
  go_enter Ybad.func4, Ybad.ntmps4
  go_wp2_with fail
  have hA0 : ∀ o, Below w.heap.size w (w.alloc o) := fun o => (Below.refl _ _).alloc (Nat.le_refl _) o
  refine (nan_any e f z c neg _ HF.out hc (by rw [(hA0 _).cell (p := ⟨0, c * 3 + 2, none⟩) h0]; exact hg) (by simp)).mono ?_
  rintro r w1 ⟨rfl, hB1, hk1, _, hs1⟩
  have q0 : w1.cell? ⟨w.heap.size, 0, none⟩ = some (.int .u64 e) := by rw [hk1 _ _ (by simp)]; simp [go_sem]
  have q1 : w1.cell? ⟨w.heap.size, 1, none⟩ = some (.int .u64 f) := by rw [hk1 _ _ (by simp)]; simp [go_sem]
  have q2 : w1.cell? ⟨w.heap.size, 2, none⟩ = some (.int .u64 z) := by rw [hk1 _ _ (by simp)]; simp [go_sem]
  have hsz : w.heap.size < w1.heap.size := by simp at hs1; omega
  have hBw := (hA0 _).trans (hB1.mono (hA0 _).size)
  clear hk1 hB1 hs1 hA0
  go_wp2_with fail
  refine (model_any e f neg _).mono ?_
  rintro r w2 ⟨rfl, rfl⟩
  go_wp2
  go_ret
  exact ⟨rfl, hBw.alloc (by omega) _⟩
end Go.Proofs.YbulkecriDoor
