import Derived.Test.YbulkecqgDoorRows
import Derived.WalkKit
import Derived.ProofKit
import Derived.OpenShut
import Derived.Outline
import Derived.Handy
import Derived.Deep.QuietTactic
import Derived.BigQuiet
import Derived.WalkSmall
namespace Go.Proofs.YbulkecqgDoor
open Go.ChangeShapes Go.WideShapes Go.ChangeAt Go.RowKit
set_option maxRecDepth 100000

/-- The six names. -/
def nameOf : Nat → ByteArray
  | 0 => ⟨#[114, 116, 99]⟩
  | 1 => ⟨#[119, 104, 105, 116, 101, 98, 111, 97, 114, 100]⟩
  | 2 => ⟨#[99, 108, 111, 117, 100, 114, 101, 99, 111, 114, 100]⟩
  | 3 => ⟨#[99, 108, 111, 117, 100, 45, 112, 108, 97, 121, 101, 114]⟩
  | 4 => ⟨#[109, 105, 110, 105, 45, 103, 97, 109, 101]⟩
  | _ => ⟨#[97, 105, 103, 99, 45, 100, 105, 103, 105, 116, 97, 108, 104, 117, 109, 97, 110]⟩

/-- A slice of six strings in a block of its own. -/
def Six (w : World) (g : Nat) : Prop := ∀ i, i < 6 → w.cell? ⟨g, i, none⟩ = some (.string (nameOf i))

theorem want_any (w : World) : Calls Ybad.prog 4 #[] w fun e w' => e = .returned (.slice (some ⟨w.heap.size, 0, none⟩) 6 6) ∧ Below w.heap.size w w' ∧ w.heap.size < w'.heap.size ∧ Six w' w.heap.size := by
  go_enter Ybad.func4, Ybad.ntmps4
  go_wp2
  go_ret
  refine ⟨rfl, by go_grown, by simp, fun i hi => ?_⟩
  have : i = 0 ∨ i = 1 ∨ i = 2 ∨ i = 3 ∨ i = 4 ∨ i = 5 := by omega
  rcases this with rfl | rfl | rfl | rfl | rfl | rfl <;> simp [nameOf]

set_option maxHeartbeats 400000 in
theorem eq_any (g g' : Nat) (w : World) (h : Six w g) (h' : Six w g') :
    Calls Ybad.prog 6 #[.slice (some ⟨g, 0, none⟩) 6 6, .slice (some ⟨g', 0, none⟩) 6 6] w fun e w' => e = .returned (.bool true) ∧ ∃ nq, w' = w.drewN nq := by
  have hn : ∀ (w : World) (a : Addr) (l c : Nat), (binOp .eql 22 (.slice (some a) l c) (.slice none 0 0)).run Ybad.prog w = .ok (.bool false) w := fun w a l c => by kernel_rfl
  go_enter Ybad.func6, Ybad.ntmps6
  go_wp2
  go_loopw [5] (fun i wr => ∃ (k nq : Nat), k ≤ 6 ∧ i = .int .i64 k ∧ wr = w.drewN nq) (fun i _ => 6 - (intOf i).toNat)
  case atStart => exact ⟨0, 0, Nat.zero_le _, rfl, rfl⟩
  case round =>
    obtain ⟨k, nq, hk, rfl, rfl⟩ := hrel
    by_cases hlt : k < 6
    · have h1 := h k hlt
      have h2 := h' k hlt
      go_wp2
      go_quiet (fail)
      go_wp2
      go_roundw
      case rel => exact ⟨k + 1, _, by omega, by go_num, rfl⟩
      case measure => simp [intOf]; omega
    · go_wp2
      go_ret
      exact ⟨rfl, _, rfl⟩

/-- The table in memory. -/
def Table (w : World) (tb to : Nat) : Prop := w.cell? ⟨0, 0, none⟩ = some (.slice (some ⟨tb, to, none⟩) 6 6) ∧ 0 < w.heap.size ∧ tb < w.heap.size ∧
  ∀ i, i < 6 → w.cell? ⟨tb, to + i * 3, none⟩ = some (.string (nameOf i)) ∧ (∃ s, w.cell? ⟨tb, to + i * 3 + 1, none⟩ = some (.string s)) ∧ ∃ b, w.cell? ⟨tb, to + i * 3 + 2, none⟩ = some (.bool b)

theorem make_six (w : World) : (Instr.makeSlice 22 (.int .i64 6) (.int .i64 6)).run Ybad.prog w = .ok (.slice (some ⟨w.heap.size, 0, none⟩) 6 6)
    (w.alloc (.cells #[.string ⟨#[]⟩, .string ⟨#[]⟩, .string ⟨#[]⟩, .string ⟨#[]⟩, .string ⟨#[]⟩, .string ⟨#[]⟩] 9)) := by kernel_rfl

/-- Behind k rounds of Products: the first k names stand, the other cells hold some string. -/
def Filled (w wr : World) (k : Nat) : Prop := Below w.heap.size w wr ∧ w.heap.size < wr.heap.size ∧ (∀ i, i < 6 → wr.frozen? ⟨w.heap.size, i, none⟩ = false) ∧ ∀ i, i < 6 → ∃ s, wr.cell? ⟨w.heap.size, i, none⟩ = some (.string s) ∧ (i < k → s = nameOf i)

theorem Filled.step {w wr : World} {k : Nat} (h : Filled w wr k) (o : Obj) : Filled w ((wr.setCell ⟨w.heap.size, k, none⟩ (.string (nameOf k))).alloc o) (k + 1) := by
  obtain ⟨hB, hlt, hf, hc⟩ := h
  have hs : w.heap.size < (wr.setCell ⟨w.heap.size, k, none⟩ (.string (nameOf k))).heap.size := by simpa using hlt
  refine ⟨(hB.setCell (Nat.le_refl _) _).alloc (Nat.le_of_lt hs) _, by simp; omega, fun i hi => ?_, fun i hi => ?_⟩
  · rw [World.frozen?_alloc_old _ _ _ (by show w.heap.size ≠ _; omega), World.frozen?_setCell]; exact hf i hi
  · obtain ⟨s, h1, h2⟩ := hc i hi
    rw [World.cell?_alloc_past _ _ _ hs]
    by_cases hik : i = k
    · subst hik
      exact ⟨nameOf i, by simp [go_sem, h1], fun _ => rfl⟩
    · exact ⟨s, by simp [go_sem, h1], fun h => h2 (by omega)⟩

set_option maxHeartbeats 400000 in
theorem products_any (tb to : Nat) (w : World) (h : Table w tb to) : Calls Ybad.prog 5 #[] w fun e w' => e = .returned (.slice (some ⟨w.heap.size, 0, none⟩) 6 6) ∧ Below w.heap.size w w' ∧ w.heap.size < w'.heap.size ∧ Six w' w.heap.size ∧ ∀ i, i < 6 → w'.frozen? ⟨w.heap.size, i, none⟩ = false := by
  obtain ⟨h0, hp, ht, hc⟩ := h
  have hm := make_six
  go_enter Ybad.func5, Ybad.ntmps5
  go_wp2
  go_loopw [9] (fun i wr => ∃ k : Nat, k ≤ 6 ∧ i = .int .i64 k ∧ Filled w wr k) (fun i _ => 6 - (intOf i).toNat)
  case atStart =>
    refine ⟨0, Nat.zero_le _, rfl, by go_grown, by simp, fun i hi => by simp, fun i hi => ⟨⟨#[]⟩, ?_, fun h => absurd h (by omega)⟩⟩
    have : i = 0 ∨ i = 1 ∨ i = 2 ∨ i = 3 ∨ i = 4 ∨ i = 5 := by omega
    rcases this with rfl | rfl | rfl | rfl | rfl | rfl <;> simp
  case round =>
    obtain ⟨k, hk, rfl, hB, hlt6, hfz, hcells⟩ := hrel
    by_cases hlt : k < 6
    · obtain ⟨c0, ⟨s1, c1⟩, b2, c2⟩ := hc k hlt
      have d0 : wr.cell? ⟨tb, to + k * 3, none⟩ = some (.string (nameOf k)) := by rw [hB.cell (p := ⟨tb, to + k * 3, none⟩) ht]; exact c0
      have d1 : wr.cell? ⟨tb, to + k * 3 + 1, none⟩ = some (.string s1) := by rw [hB.cell (p := ⟨tb, to + k * 3 + 1, none⟩) ht]; exact c1
      have d2 : wr.cell? ⟨tb, to + k * 3 + 2, none⟩ = some (.bool b2) := by rw [hB.cell (p := ⟨tb, to + k * 3 + 2, none⟩) ht]; exact c2
      obtain ⟨s, hs, _⟩ := hcells k hlt
      have hz := hfz k hlt
      go_wp2
      go_roundw
      case rel => exact ⟨k + 1, by omega, by go_num, Filled.step ⟨hB, hlt6, hfz, hcells⟩ _⟩
      case measure => simp [intOf]; omega
    · go_wp2
      go_ret
      obtain rfl : k = 6 := by omega
      exact ⟨rfl, hB, hlt6, fun i hi => by obtain ⟨s, h1, h2⟩ := hcells i hi; rw [h1, h2 hi], hfz⟩

theorem Table.below {w w' : World} {tb to : Nat} (h : Table w tb to) (hB : Below w.heap.size w w') : Table w' tb to := by
  obtain ⟨h0, hp, ht, hc⟩ := h
  have hz := hB.size
  refine ⟨by rw [hB.cell (p := ⟨0, 0, none⟩) hp]; exact h0, by omega, by omega, fun i hi => ?_⟩
  obtain ⟨c0, ⟨s1, c1⟩, b2, c2⟩ := hc i hi
  exact ⟨by rw [hB.cell (p := ⟨tb, to + i * 3, none⟩) ht]; exact c0, ⟨s1, by rw [hB.cell (p := ⟨tb, to + i * 3 + 1, none⟩) ht]; exact c1⟩, b2, by rw [hB.cell (p := ⟨tb, to + i * 3 + 2, none⟩) ht]; exact c2⟩
theorem Six.below {w w' : World} {g B : Nat} (h : Six w g) (hB : Below B w w') (hg : g < B) : Six w' g := fun i hi => by rw [hB.cell (p := ⟨g, i, none⟩) hg]; exact h i hi
theorem Six.drewN {w : World} {g : Nat} (h : Six w g) (nq : Nat) : Six (w.drewN nq) g := fun i hi => by simpa using h i hi

set_option maxHeartbeats 1000000 in
theorem law_any (tb to : Nat) (w : World) (h : Table w tb to) : Calls Ybad.prog 3 #[] w fun e w' => e = .returned (.bool true) ∧ Below w.heap.size w w' := by
  go_enter Ybad.func3, Ybad.ntmps3
  go_wp2_with fail
  refine (want_any w).mono ?_
  rintro e1 w1 ⟨rfl, hB1, hs1, h6⟩
  go_wp2_with fail
  have hT1 := h.below hB1
  refine (products_any tb to w1 hT1).mono ?_
  rintro e2 w2 ⟨rfl, hB2, hs2, h62, hf2⟩
  go_wp2_with fail
  refine (eq_any w1.heap.size w.heap.size w2 h62 (h6.below hB2 hs1)).mono ?_
  rintro e3 w3 ⟨rfl, n3, rfl⟩
  go_wp2
  go_loopw [3] (fun i wr => ∃ k : Nat, k ≤ 6 ∧ i = .int .i64 k ∧ Below w1.heap.size w1 wr ∧ w1.heap.size < wr.heap.size ∧ (∀ i, i < 6 → wr.frozen? ⟨w1.heap.size, i, none⟩ = false) ∧ ∀ i, i < 6 → ∃ s, wr.cell? ⟨w1.heap.size, i, none⟩ = some (.string s)) (fun i _ => 6 - (intOf i).toNat)
  case atStart => exact ⟨0, Nat.zero_le _, rfl, below_drewN hB2 _, by simpa using hs2, fun i hi => by simpa using hf2 i hi, fun i hi => ⟨_, by simpa using h62 i hi⟩⟩
  case round =>
    obtain ⟨k, hk, rfl, hB, hlt6, hfz, hcells⟩ := hrel
    by_cases hlt : k < 6
    · obtain ⟨s, hs⟩ := hcells k hlt
      have hz := hfz k hlt
      go_wp2
      go_roundw
      case rel =>
        refine ⟨k + 1, by omega, by go_num, hB.setCell (Nat.le_refl _) _, by simpa using hlt6, fun i hi => by rw [World.frozen?_setCell]; exact hfz i hi, fun i hi => ?_⟩
        obtain ⟨s', h'⟩ := hcells i hi
        by_cases hik : i = k
        · subst hik; exact ⟨⟨#[122, 122]⟩, by simp [go_sem, h']⟩
        · exact ⟨s', by simp [go_sem, h']⟩
      case measure => simp [intOf]; omega
    · go_wp2_with fail
      have hT2 := hT1.below hB
      refine (products_any tb to wr hT2).mono ?_
      rintro e4 w4 ⟨rfl, hB4, hs4, h64, hf4⟩
      go_wp2_with fail
      refine (eq_any wr.heap.size w.heap.size w4 h64 ((h6.below hB hs1).below hB4 (by omega))).mono ?_
      rintro e5 w5 ⟨rfl, n5, rfl⟩
      go_wp2
      go_ret
      exact ⟨rfl, below_drewN (hB1.trans ((hB.trans (hB4.mono (by omega))).mono (by omega))) _⟩
end Go.Proofs.YbulkecqgDoor
