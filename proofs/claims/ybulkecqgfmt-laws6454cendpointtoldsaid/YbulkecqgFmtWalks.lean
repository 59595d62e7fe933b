import Derived.Test.YbulkecqgFmtRows
import Derived.WalkKit
import Derived.ProofKit
import Derived.OpenShut
import Derived.Outline
import Derived.Handy
import Derived.Deep.QuietTactic
import Derived.BigQuiet
import Derived.WalkSmall
namespace Go.Proofs.YbulkecqgFmt
open Go.ChangeShapes Go.WideShapes Go.ChangeAt Go.RowKit
set_option maxRecDepth 100000

/-- The six names. -/
def nameOf : Nat → ByteArray
  | 0 => ⟨#[114, 116, 99]⟩
  | 1 => ⟨#[119, 104, 105, 116, 101, 98, 111, 97, 114, 100]⟩
  | 2 => ⟨#[99, 108, 111, 117, 100, 114, 101, 99, 111, 114, 100]⟩
  | 3 => ⟨#[99, 108, 111, 117, 100, 45, 112, 108, 97, 121, 101, 114]⟩
  | 4 => ⟨#[109, 105, 110, 105, 45, 103, 97, 109, 101]⟩
  | _ => ⟨#[97, 105, 103, 99, 45, 100, 105, 103, 105, 116, 97, 108, 104, 117, 109, 97, 110]⟩

/-- The six domains. -/
def domOf : Nat → ByteArray
  | 5 => ⟨#[122, 101, 103, 111, 116, 101, 99, 104, 46, 99, 110]⟩
  | _ => ⟨#[122, 101, 103, 111, 46, 105, 109]⟩

/-- A slice of six strings in a block of its own. -/
def Six (w : World) (g : Nat) : Prop := ∀ i, i < 6 → w.cell? ⟨g, i, none⟩ = some (.string (nameOf i))

/-- The table in memory. -/
def Table (w : World) (tb to : Nat) : Prop := w.cell? ⟨0, 0, none⟩ = some (.slice (some ⟨tb, to, none⟩) 6 6) ∧ 0 < w.heap.size ∧ tb < w.heap.size ∧
  ∀ i, i < 6 → w.cell? ⟨tb, to + i * 3, none⟩ = some (.string (nameOf i)) ∧ w.cell? ⟨tb, to + i * 3 + 1, none⟩ = some (.string (domOf i)) ∧ ∃ b, w.cell? ⟨tb, to + i * 3 + 2, none⟩ = some (.bool b)

theorem make_six (w : World) : (Instr.makeSlice 22 (.int .i64 6) (.int .i64 6)).run Ybaf.prog w = .ok (.slice (some ⟨w.heap.size, 0, none⟩) 6 6)
    (w.alloc (.cells #[.string ⟨#[]⟩, .string ⟨#[]⟩, .string ⟨#[]⟩, .string ⟨#[]⟩, .string ⟨#[]⟩, .string ⟨#[]⟩] 9)) := by kernel_rfl

/-- Behind k rounds of Products: the first k names stand, the other cells hold some string. -/
def Filled (w wr : World) (k : Nat) : Prop := Below w.heap.size w wr ∧ w.heap.size < wr.heap.size ∧ (∀ i, i < 6 → wr.frozen? ⟨w.heap.size, i, none⟩ = false) ∧ ∀ i, i < 6 → ∃ s, wr.cell? ⟨w.heap.size, i, none⟩ = some (.string s) ∧ (i < k → s = nameOf i)

theorem Filled.step {w wr : World} {k : Nat} (h : Filled w wr k) (o : Obj) : Filled w ((wr.setCell ⟨w.heap.size, k, none⟩ (.string (nameOf k))).alloc o) (k + 1) := by
  obtain ⟨hB, hlt, hf, hc⟩ := h
  have hs : w.heap.size < (wr.setCell ⟨w.heap.size, k, none⟩ (.string (nameOf k))).heap.size := by simpa using hlt
  refine ⟨(hB.setCell (Nat.le_refl _) _).alloc (Nat.le_of_lt hs) _, by simp; omega, fun i hi => ?_, fun i hi => ?_⟩
  · rw [World.frozen?_alloc_old _ _ _ (by show w.heap.size ≠ _; omega), World.frozen?_setCell]; exact hf i hi
  · obtain ⟨s, h1, h2⟩ := hc i hi
    rw [World.cell?_alloc_past _ _ _ hs]
    by_cases hik : i = k
    · subst hik
      exact ⟨nameOf i, by simp [go_sem, h1], fun _ => rfl⟩
    · exact ⟨s, by simp [go_sem, h1], fun h => h2 (by omega)⟩

set_option maxHeartbeats 400000 in
theorem products_any (tb to : Nat) (w : World) (h : Table w tb to) : Calls Ybaf.prog 4 #[] w fun e w' => e = .returned (.slice (some ⟨w.heap.size, 0, none⟩) 6 6) ∧ Below w.heap.size w w' ∧ w.heap.size < w'.heap.size ∧ Six w' w.heap.size ∧ ∀ i, i < 6 → w'.frozen? ⟨w.heap.size, i, none⟩ = false := by
  obtain ⟨h0, hp, ht, hc⟩ := h
  have hm := make_six
  go_enter Ybaf.func4, Ybaf.ntmps4
  go_wp2
  go_loopw [9] (fun i wr => ∃ k : Nat, k ≤ 6 ∧ i = .int .i64 k ∧ Filled w wr k) (fun i _ => 6 - (intOf i).toNat)
  case atStart =>
    refine ⟨0, Nat.zero_le _, rfl, by go_grown, by simp, fun i hi => by simp, fun i hi => ⟨⟨#[]⟩, ?_, fun h => absurd h (by omega)⟩⟩
    have : i = 0 ∨ i = 1 ∨ i = 2 ∨ i = 3 ∨ i = 4 ∨ i = 5 := by omega
    rcases this with rfl | rfl | rfl | rfl | rfl | rfl <;> simp
  case round =>
    obtain ⟨k, hk, rfl, hB, hlt6, hfz, hcells⟩ := hrel
    by_cases hlt : k < 6
    · obtain ⟨c0, c1, b2, c2⟩ := hc k hlt
      have d0 : wr.cell? ⟨tb, to + k * 3, none⟩ = some (.string (nameOf k)) := by rw [hB.cell (p := ⟨tb, to + k * 3, none⟩) ht]; exact c0
      have d1 : wr.cell? ⟨tb, to + k * 3 + 1, none⟩ = some (.string (domOf k)) := by rw [hB.cell (p := ⟨tb, to + k * 3 + 1, none⟩) ht]; exact c1
      have d2 : wr.cell? ⟨tb, to + k * 3 + 2, none⟩ = some (.bool b2) := by rw [hB.cell (p := ⟨tb, to + k * 3 + 2, none⟩) ht]; exact c2
      obtain ⟨s, hs, _⟩ := hcells k hlt
      have hz := hfz k hlt
      go_wp2
      go_roundw
      case rel => exact ⟨k + 1, by omega, by go_num, Filled.step ⟨hB, hlt6, hfz, hcells⟩ _⟩
      case measure => simp [intOf]; omega
    · go_wp2
      go_ret
      obtain rfl : k = 6 := by omega
      exact ⟨rfl, hB, hlt6, fun i hi => by obtain ⟨s, h1, h2⟩ := hcells i hi; rw [h1, h2 hi], hfz⟩

theorem Table.below {w w' : World} {tb to : Nat} (h : Table w tb to) (hB : Below w.heap.size w w') : Table w' tb to := by
  obtain ⟨h0, hp, ht, hc⟩ := h
  have hz := hB.size
  refine ⟨by rw [hB.cell (p := ⟨0, 0, none⟩) hp]; exact h0, by omega, by omega, fun i hi => ?_⟩
  obtain ⟨c0, c1, b2, c2⟩ := hc i hi
  exact ⟨by rw [hB.cell (p := ⟨tb, to + i * 3, none⟩) ht]; exact c0, by rw [hB.cell (p := ⟨tb, to + i * 3 + 1, none⟩) ht]; exact c1, b2, by rw [hB.cell (p := ⟨tb, to + i * 3 + 2, none⟩) ht]; exact c2⟩
theorem Six.below {w w' : World} {g B : Nat} (h : Six w g) (hB : Below B w w') (hg : g < B) : Six w' g := fun i hi => by rw [hB.cell (p := ⟨g, i, none⟩) hg]; exact h i hi
theorem Six.drewN {w : World} {g : Nat} (h : Six w g) (nq : Nat) : Six (w.drewN nq) g := fun i hi => by simpa using h i hi

/-- The names are pairwise different. -/
theorem name_ne (i k : Nat) (hi : i < k) (hk : k < 6) : ((nameOf i).toList == (nameOf k).toList) = false := by
  have hk' : k = 0 ∨ k = 1 ∨ k = 2 ∨ k = 3 ∨ k = 4 ∨ k = 5 := by omega
  have hi' : i = 0 ∨ i = 1 ∨ i = 2 ∨ i = 3 ∨ i = 4 := by omega
  rcases hk' with rfl | rfl | rfl | rfl | rfl | rfl <;> rcases hi' with rfl | rfl | rfl | rfl | rfl <;> first | omega | (rw [ByteArray.toList_eq, ByteArray.toList_eq]; rfl)

set_option maxHeartbeats 400000 in
theorem index_any (tb to b k : Nat) (w : World) (h : Table w tb to) (hb : w.cell? ⟨b, 0, none⟩ = some (.string (nameOf k))) (hbl : b < w.heap.size) (hk : k < 6) :
    Calls Ybaf.prog 6 #[.slice (some ⟨tb, to, none⟩) 6 6, .func (.func 7) #[] #[.pointer (some ⟨b, 0, none⟩)]] w fun e w' => e = .returned (.int .i64 k) ∧ Below w.heap.size w w' := by
  obtain ⟨h0, hp, ht, hc⟩ := h
  go_enter Ybaf.func6, Ybaf.ntmps6
  go_wp2
  go_loopw [8] (fun i wr => ∃ j : Nat, j ≤ k ∧ i = .int .i64 j ∧ Below w.heap.size w wr) (fun i _ => 6 - (intOf i).toNat)
  case atStart => exact ⟨0, Nat.zero_le _, rfl, Below.refl _ _⟩
  case round =>
    obtain ⟨j, hj, rfl, hB⟩ := hrel
    have hsz := hB.size
    obtain ⟨c0, c1, b2, c2⟩ := hc j (by omega)
    have d0 : wr.cell? ⟨tb, to + j * 3, none⟩ = some (.string (nameOf j)) := by rw [hB.cell (p := ⟨tb, to + j * 3, none⟩) ht]; exact c0
    have d1 : wr.cell? ⟨tb, to + j * 3 + 1, none⟩ = some (.string (domOf j)) := by rw [hB.cell (p := ⟨tb, to + j * 3 + 1, none⟩) ht]; exact c1
    have d2 : wr.cell? ⟨tb, to + j * 3 + 2, none⟩ = some (.bool b2) := by rw [hB.cell (p := ⟨tb, to + j * 3 + 2, none⟩) ht]; exact c2
    have db : wr.cell? ⟨b, 0, none⟩ = some (.string (nameOf k)) := by rw [hB.cell (p := ⟨b, 0, none⟩) hbl]; exact hb
    have hblt : b < wr.heap.size := by omega
    have hj6 : j < 6 := by omega
    by_cases hlt : j < k
    · have hne := name_ne j k hlt hk
      go_wp2
      go_roundw
      case rel => exact ⟨j + 1, by omega, by go_num, hB.alloc hsz _⟩
      case measure => simp [intOf]; omega
    · obtain rfl : j = k := by omega
      go_wp2
      go_ret
      exact ⟨rfl, by go_grown⟩

theorem name_size (k : Nat) : (nameOf k).size ≤ 17 := by
  unfold nameOf
  split <;> decide
theorem dom_size (k : Nat) : (domOf k).size ≤ 11 := by
  unfold domOf
  split <;> decide
/-- The unified host's address. -/
def urlOf (k : Nat) : ByteArray := ⟨#[104, 116, 116, 112, 115, 58, 47, 47]⟩ ++ (nameOf k ++ ⟨#[45, 97, 112, 105]⟩) ++ ⟨#[46]⟩ ++ domOf k ++ ⟨#[47]⟩

set_option maxHeartbeats 1000000 in
theorem endpoint_any (tb to k : Nat) (w : World) (h : Table w tb to) (hk : k < 6) :
    Calls Ybaf.prog 5 #[.string (nameOf k), .string ⟨#[]⟩] w fun e w' => e = .returned (.tuple #[.string (urlOf k), .nilIface]) ∧ Below w.heap.size w w' := by
  have hB0 : ∀ o, Below w.heap.size w (w.alloc o) := fun o => (Below.refl _ _).alloc (Nat.le_refl _) o
  have hT0 := fun o => h.below (hB0 o)
  have hmf : ∀ (fn : Fn) (first cap : Array Value) (w : World), (Instr.makeFunc fn first cap).run Ybaf.prog w = .ok (.func fn first cap) w := fun _ _ _ _ => rfl
  obtain ⟨h0, hp, ht, hc⟩ := h
  go_enter Ybaf.func5, Ybaf.ntmps5
  go_wp2_with fail
  refine (index_any tb to w.heap.size k _ (hT0 _) (by simp [go_sem]) (by simp) hk).mono ?_
  rintro e1 w1 ⟨rfl, hB1⟩
  have hsz := hB1.size
  simp only [World.size_alloc] at hsz
  have hBw := (hB0 _).trans (hB1.mono (by simp))
  have hg : w1.cell? ⟨0, 0, none⟩ = some (.slice (some ⟨tb, to, none⟩) 6 6) := by rw [hBw.cell (p := ⟨0, 0, none⟩) hp]; exact h0
  have hpr : w1.cell? ⟨w.heap.size, 0, none⟩ = some (.string (nameOf k)) := by rw [hB1.cell (p := ⟨w.heap.size, 0, none⟩) (by simp)]; simp [go_sem]
  obtain ⟨c0, c1, b2, c2⟩ := hc k hk
  have d0 : w1.cell? ⟨tb, to + k * 3, none⟩ = some (.string (nameOf k)) := by rw [hBw.cell (p := ⟨tb, to + k * 3, none⟩) ht]; exact c0
  have d1 : w1.cell? ⟨tb, to + k * 3 + 1, none⟩ = some (.string (domOf k)) := by rw [hBw.cell (p := ⟨tb, to + k * 3 + 1, none⟩) ht]; exact c1
  have d2 : w1.cell? ⟨tb, to + k * 3 + 2, none⟩ = some (.bool b2) := by rw [hBw.cell (p := ⟨tb, to + k * 3 + 2, none⟩) ht]; exact c2
  have hlt : w.heap.size < w1.heap.size := by omega
  clear hB1 hT0 hB0
  have n1 := name_size k
  have n2 := dom_size k
  have z1 : ¬ 9223372036854775807 < (nameOf k).size + 4 := by omega
  have z2 : ¬ 9223372036854775807 < 8 + ((nameOf k).size + 4) := by omega
  have z3 : ¬ 9223372036854775807 < 8 + ((nameOf k).size + 4) + 1 := by omega
  have z4 : ¬ 9223372036854775807 < 8 + ((nameOf k).size + 4) + 1 + (domOf k).size := by omega
  have z5 : ¬ 9223372036854775807 < 8 + ((nameOf k).size + 4) + 1 + (domOf k).size + 1 := by omega
  go_wp2_with fail
  go_ret2
  exact ⟨rfl, hBw.alloc (by omega) _⟩

theorem url_low (k : Nat) (hk : k < 5) : ((urlOf k).toList == (⟨#[104, 116, 116, 112, 115, 58, 47, 47]⟩ ++ nameOf k ++ ⟨#[45, 97, 112, 105, 46]⟩ ++ ⟨#[122, 101, 103, 111, 46, 105, 109]⟩ ++ ⟨#[47]⟩ : ByteArray).toList) = true := by
  have hk' : k = 0 ∨ k = 1 ∨ k = 2 ∨ k = 3 ∨ k = 4 := by omega
  rw [ByteArray.toList_eq, ByteArray.toList_eq]
  rcases hk' with rfl | rfl | rfl | rfl | rfl <;> rfl
theorem url_five : ((urlOf 5).toList == (⟨#[104, 116, 116, 112, 115, 58, 47, 47]⟩ ++ nameOf 5 ++ ⟨#[45, 97, 112, 105, 46]⟩ ++ ⟨#[122, 101, 103, 111, 116, 101, 99, 104, 46, 99, 110]⟩ ++ ⟨#[47]⟩ : ByteArray).toList) = true := by
  rw [ByteArray.toList_eq, ByteArray.toList_eq]
  rfl

set_option maxHeartbeats 1000000 in
theorem law_any (tb to : Nat) (w : World) (h : Table w tb to) : Calls Ybaf.prog 3 #[] w fun e w' => e = .returned (.bool true) ∧ Below w.heap.size w w' := by
  go_enter Ybaf.func3, Ybaf.ntmps3
  go_wp2_with fail
  refine (products_any tb to w h).mono ?_
  rintro e1 w1 ⟨rfl, hB1, hs1, h6, _⟩
  have hT1 := h.below hB1
  go_wp2
  go_loopw [2] (fun i wr => ∃ k : Nat, k ≤ 6 ∧ i = .int .i64 k ∧ Below w1.heap.size w1 wr) (fun i _ => 6 - (intOf i).toNat)
  case atStart => exact ⟨0, Nat.zero_le _, rfl, Below.refl _ _⟩
  case round =>
    obtain ⟨k, hk, rfl, hB⟩ := hrel
    by_cases hlt : k < 6
    · have hc := (h6.below hB hs1) k hlt
      have hT := hT1.below hB
      have n1 := name_size k
      have z1 : ¬ 9223372036854775807 < 8 + (nameOf k).size := by omega
      have z2 : ¬ 9223372036854775807 < 8 + (nameOf k).size + 5 := by omega
      by_cases h5 : k = 5
      · subst h5
        have z3 : ¬ 9223372036854775807 < 8 + (nameOf 5).size + 5 + 11 := by omega
        have z4 : ¬ 9223372036854775807 < 8 + (nameOf 5).size + 5 + 11 + 1 := by omega
        have hu := url_five
        go_wp2_with fail
        refine (endpoint_any tb to 5 wr hT (by omega)).mono ?_
        rintro e2 w2 ⟨rfl, hB2⟩
        have hc2 : w2.cell? ⟨w.heap.size, 5, none⟩ = some (.string (nameOf 5)) := by rw [hB2.cell (p := ⟨w.heap.size, 5, none⟩) (by have := hB.size; show w.heap.size < _; omega)]; exact hc
        go_wp2_with fail
        go_roundw
        case rel => exact ⟨6, by omega, rfl, hB.trans (hB2.mono hB.size)⟩
        case measure => simp [intOf]
      · have hlt5 : k < 5 := by omega
        have z3 : ¬ 9223372036854775807 < 8 + (nameOf k).size + 5 + 7 := by omega
        have z4 : ¬ 9223372036854775807 < 8 + (nameOf k).size + 5 + 7 + 1 := by omega
        have hu := url_low k hlt5
        have h5' : ((k : Int) == 5) = false := by simpa using (by omega : ¬ (k : Int) = 5)
        go_wp2_with fail
        refine (endpoint_any tb to k wr hT hlt).mono ?_
        rintro e2 w2 ⟨rfl, hB2⟩
        have hc2 : w2.cell? ⟨w.heap.size, k, none⟩ = some (.string (nameOf k)) := by rw [hB2.cell (p := ⟨w.heap.size, k, none⟩) (by have := hB.size; show w.heap.size < _; omega)]; exact hc
        go_wp2_with fail
        go_roundw
        case rel => exact ⟨k + 1, by omega, by go_num, hB.trans (hB2.mono hB.size)⟩
        case measure => simp [intOf]; omega
    · go_wp2
      go_ret
      exact ⟨rfl, hB1.trans (hB.mono (by omega))⟩
end Go.Proofs.YbulkecqgFmt
