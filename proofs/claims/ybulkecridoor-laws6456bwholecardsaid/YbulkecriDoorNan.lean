import Derived.Test.YbulkecriDoorWalks
import Derived.Test.YbulkecriDoorBits
import Derived.Deep.DeepCutAuto
namespace Go.Proofs.YbulkecriDoor
open Go.ChangeShapes Go.WideShapes Go.ChangeAt Go.RowKit
set_option maxRecDepth 100000

/-- What a callee leaves, seen from the caller's first world w0, whose first new block holds x0, x1, x2. -/
def Left3 (w0 : World) (x0 x1 x2 : Value) (w w' : World) : Prop := Below w0.heap.size w0 w' ∧ (∀ b o, (w.cell? ⟨b, o, none⟩).isSome = true → w'.cell? ⟨b, o, none⟩ = w.cell? ⟨b, o, none⟩) ∧ (∀ b o, (w.cell? ⟨b, o, none⟩).isSome = true → w'.frozen? ⟨b, o, none⟩ = w.frozen? ⟨b, o, none⟩) ∧ w0.heap.size < w'.heap.size ∧ w0.heap.size + 1 < w'.heap.size ∧ w.heap.size ≤ w'.heap.size
  ∧ w'.cell? ⟨w0.heap.size, 0, none⟩ = some x0 ∧ w'.cell? ⟨w0.heap.size, 1, none⟩ = some x1 ∧ w'.cell? ⟨w0.heap.size, 2, none⟩ = some x2
theorem lt_of_some {w : World} {b o : Nat} (h : (w.cell? ⟨b, o, none⟩).isSome = true) : b < w.heap.size := by
  rcases Nat.lt_or_ge b w.heap.size with h' | h'
  · exact h'
  · simp [World.cell?, Array.getElem?_eq_none h'] at h
theorem Left3.of {w0 w w' : World} {x0 x1 x2 : Value} (h : Kept w w') (hB : Below w0.heap.size w0 w) (hs : w0.heap.size + 1 < w.heap.size) (hS : w.cell? ⟨w0.heap.size, 0, none⟩ = some x0 ∧ w.cell? ⟨w0.heap.size, 1, none⟩ = some x1 ∧ w.cell? ⟨w0.heap.size, 2, none⟩ = some x2) : Left3 w0 x0 x1 x2 w w' :=
  ⟨hB.trans (h.1.mono hB.size), fun b o hb => h.2.1 b o (lt_of_some hb), fun b o hb => h.2.2.1 b o (lt_of_some hb), by have := h.2.2.2; omega, by have := h.2.2.2; omega, h.2.2.2, by rw [h.2.1 _ _ (by omega)]; exact hS.1, by rw [h.2.1 _ _ (by omega)]; exact hS.2.1, by rw [h.2.1 _ _ (by omega)]; exact hS.2.2⟩

theorem setBit_at (w0 : World) (x0 x1 x2 : Value) (hi lo n : Nat) (w : World) (h1 : hi < 18446744073709551616) (h2 : lo < 18446744073709551616) (hB : Below w0.heap.size w0 w) (hs : w0.heap.size + 1 < w.heap.size) (hS : w.cell? ⟨w0.heap.size, 0, none⟩ = some x0 ∧ w.cell? ⟨w0.heap.size, 1, none⟩ = some x1 ∧ w.cell? ⟨w0.heap.size, 2, none⟩ = some x2) :
    Calls Ybad.prog 14 #[.agg #[.int .u64 hi, .int .u64 lo], .int .u64 n] w fun e w' => e = .returned (.agg #[.int .u64 (setHi hi n), .int .u64 (setLo lo n)]) ∧ Left3 w0 x0 x1 x2 w w' :=
  (setBit_any hi lo n w h1 h2).mono fun _ _ ⟨he, h⟩ => ⟨he, Left3.of h hB hs hS⟩
theorem quiet_at (w0 : World) (x0 x1 x2 : Value) (a b c : Nat) (w : World) (hB : Below w0.heap.size w0 w) (hs : w0.heap.size + 1 < w.heap.size) (hS : w.cell? ⟨w0.heap.size, 0, none⟩ = some x0 ∧ w.cell? ⟨w0.heap.size, 1, none⟩ = some x1 ∧ w.cell? ⟨w0.heap.size, 2, none⟩ = some x2) : Calls Ybad.prog 15 #[.agg #[.int .u64 a, .int .u64 b, .int .u64 c]] w fun e w' => e = .returned (.int .u64 (sub1 b)) ∧ Left3 w0 x0 x1 x2 w w' :=
  (quiet_any a b c w).mono fun _ _ ⟨he, h⟩ => ⟨he, Left3.of h hB hs hS⟩
theorem shl_at (w0 : World) (x0 x1 x2 : Value) (lo n : Nat) (w : World) (h2 : lo < 18446744073709551616) (hn : n < 18446744073709551616) (hB : Below w0.heap.size w0 w) (hs : w0.heap.size + 1 < w.heap.size) (hS : w.cell? ⟨w0.heap.size, 0, none⟩ = some x0 ∧ w.cell? ⟨w0.heap.size, 1, none⟩ = some x1 ∧ w.cell? ⟨w0.heap.size, 2, none⟩ = some x2) :
    Calls Ybad.prog 13 #[.agg #[.int .u64 0, .int .u64 lo], .int .u64 n] w fun e w' => e = .returned (.agg #[.int .u64 (shlHi lo n), .int .u64 (shlLo lo n)]) ∧ Left3 w0 x0 x1 x2 w w' :=
  (shl_any lo n w h2 hn).mono fun _ _ ⟨he, h⟩ => ⟨he, Left3.of h hB hs hS⟩

/-- The state behind the first statement: N the first new block (the format), N + 1 the result's, zb the block of z. -/
def Mid (w : World) (e f z zb : Nat) (W : World) : Prop := Below w.heap.size w W ∧ w.heap.size + 1 < zb ∧ zb < W.heap.size
  ∧ (W.cell? ⟨w.heap.size, 0, none⟩ = some (.int .u64 e) ∧ W.cell? ⟨w.heap.size, 1, none⟩ = some (.int .u64 f) ∧ W.cell? ⟨w.heap.size, 2, none⟩ = some (.int .u64 z))
  ∧ (W.cell? ⟨w.heap.size + 1, 0, none⟩ = some (.int .u64 0) ∧ W.cell? ⟨w.heap.size + 1, 1, none⟩ = some (.int .u64 0) ∧ W.frozen? ⟨w.heap.size + 1, 0, none⟩ = false ∧ W.frozen? ⟨w.heap.size + 1, 1, none⟩ = false)
  ∧ W.cell? ⟨zb, 0, none⟩ = some (.int .u64 (setHi (shlHi (ones e) f) (sub1 f))) ∧ W.cell? ⟨zb, 1, none⟩ = some (.int .u64 (setLo (shlLo (ones e) f) (sub1 f))) ∧ W.frozen? ⟨zb, 0, none⟩ = false ∧ W.frozen? ⟨zb, 1, none⟩ = false

theorem cell_far {W : World} {g o b i : Nat} (u : Value) (h : b < g) : (W.setCell ⟨g, o, none⟩ u).cell? ⟨b, i, none⟩ = W.cell? ⟨b, i, none⟩ :=
  World.cell?_of_block (heap_setCell_other _ _ _ _ (by show b ≠ g; omega))
theorem far2 {W : World} {g b : Nat} {u v x0 x1 x2 : Value} (h : b < g) (hS : W.cell? ⟨b, 0, none⟩ = some x0 ∧ W.cell? ⟨b, 1, none⟩ = some x1 ∧ W.cell? ⟨b, 2, none⟩ = some x2) :
    ((W.setCell ⟨g, 0, none⟩ u).setCell ⟨g, 1, none⟩ v).cell? ⟨b, 0, none⟩ = some x0 ∧ ((W.setCell ⟨g, 0, none⟩ u).setCell ⟨g, 1, none⟩ v).cell? ⟨b, 1, none⟩ = some x1 ∧ ((W.setCell ⟨g, 0, none⟩ u).setCell ⟨g, 1, none⟩ v).cell? ⟨b, 2, none⟩ = some x2 := by
  rw [cell_far v h, cell_far u h, cell_far v h, cell_far u h, cell_far v h, cell_far u h]
  exact hS

theorem via {W W' : World} (r : ∀ b o, (W.cell? ⟨b, o, none⟩).isSome = true → W'.cell? ⟨b, o, none⟩ = W.cell? ⟨b, o, none⟩) {b o : Nat} (h : W.cell? ⟨b, o, none⟩ = some (.int .u64 0)) : W'.cell? ⟨b, o, none⟩ = some (.int .u64 0) := by
  rw [r b o (by rw [h]; rfl)]; exact h
theorem viaf {W W' : World} (r : ∀ b o, (W.cell? ⟨b, o, none⟩).isSome = true → W'.frozen? ⟨b, o, none⟩ = W.frozen? ⟨b, o, none⟩) {b o : Nat} (h : W.cell? ⟨b, o, none⟩ = some (.int .u64 0)) (hf : W.frozen? ⟨b, o, none⟩ = false) : W'.frozen? ⟨b, o, none⟩ = false := by
  rw [r b o (by rw [h]; rfl)]; exact hf
theorem mid_new {w W : World} {e f z : Nat} (hB : Below w.heap.size w W) (hs : w.heap.size + 1 < W.heap.size)
    (h : W.cell? ⟨w.heap.size, 0, none⟩ = some (.int .u64 e) ∧ W.cell? ⟨w.heap.size, 1, none⟩ = some (.int .u64 f) ∧ W.cell? ⟨w.heap.size, 2, none⟩ = some (.int .u64 z))
    (h' : W.cell? ⟨w.heap.size + 1, 0, none⟩ = some (.int .u64 0) ∧ W.cell? ⟨w.heap.size + 1, 1, none⟩ = some (.int .u64 0) ∧ W.frozen? ⟨w.heap.size + 1, 0, none⟩ = false ∧ W.frozen? ⟨w.heap.size + 1, 1, none⟩ = false) :
    Mid w e f z W.heap.size (W.alloc (.cells #[.int .u64 (setHi (shlHi (ones e) f) (sub1 f)), .int .u64 (setLo (shlLo (ones e) f) (sub1 f))] 31)) := by
  have p0 : ∀ (o : Obj) (b i : Nat), b < W.heap.size → (W.alloc o).cell? ⟨b, i, none⟩ = W.cell? ⟨b, i, none⟩ := fun o b i hb => World.cell?_alloc_past _ _ _ hb
  have q0 : ∀ (o : Obj) (b i : Nat), b < W.heap.size → (W.alloc o).frozen? ⟨b, i, none⟩ = W.frozen? ⟨b, i, none⟩ := fun o b i hb => World.frozen?_alloc_old _ _ _ (by show b ≠ _; omega)
  refine ⟨hB.alloc hB.size _, hs, by simp, ?_, ?_, by simp, by simp, by simp, by simp⟩
  · rw [p0 _ _ _ (by omega), p0 _ _ _ (by omega), p0 _ _ _ (by omega)]; exact h
  · rw [p0 _ _ _ (by omega), p0 _ _ _ (by omega), q0 _ _ _ (by omega), q0 _ _ _ (by omega)]; exact h'
theorem mid_set {w W : World} {e f z zb : Nat} (hB : Below w.heap.size w W) (hz : w.heap.size + 1 < zb)
    (h : W.cell? ⟨w.heap.size, 0, none⟩ = some (.int .u64 e) ∧ W.cell? ⟨w.heap.size, 1, none⟩ = some (.int .u64 f) ∧ W.cell? ⟨w.heap.size, 2, none⟩ = some (.int .u64 z))
    (h' : W.cell? ⟨w.heap.size + 1, 0, none⟩ = some (.int .u64 0) ∧ W.cell? ⟨w.heap.size + 1, 1, none⟩ = some (.int .u64 0) ∧ W.frozen? ⟨w.heap.size + 1, 0, none⟩ = false ∧ W.frozen? ⟨w.heap.size + 1, 1, none⟩ = false)
    (z0 : W.cell? ⟨zb, 0, none⟩ = some (.int .u64 0)) (z1 : W.cell? ⟨zb, 1, none⟩ = some (.int .u64 0)) (f0 : W.frozen? ⟨zb, 0, none⟩ = false) (f1 : W.frozen? ⟨zb, 1, none⟩ = false) :
    Mid w e f z zb ((W.setCell ⟨zb, 0, none⟩ (.int .u64 (setHi (shlHi (ones e) f) (sub1 f)))).setCell ⟨zb, 1, none⟩ (.int .u64 (setLo (shlLo (ones e) f) (sub1 f)))) := by
  have hlt : zb < W.heap.size := lt_of_some (o := 0) (by rw [z0]; rfl)
  refine ⟨(hB.setCell (by show w.heap.size ≤ zb; omega) _).setCell (by show w.heap.size ≤ zb; omega) _, hz, by simpa using hlt, far2 (by omega) h, ?_, by simp [go_sem, z0], by simp [go_sem, z1], by rw [World.frozen?_setCell, World.frozen?_setCell]; exact f0, by rw [World.frozen?_setCell, World.frozen?_setCell]; exact f1⟩
  refine ⟨?_, ?_, by rw [World.frozen?_setCell, World.frozen?_setCell]; exact h'.2.2.1, by rw [World.frozen?_setCell, World.frozen?_setCell]; exact h'.2.2.2⟩
  · rw [cell_far _ hz, cell_far _ hz]; exact h'.1
  · rw [cell_far _ hz, cell_far _ hz]; exact h'.2.1

set_option maxHeartbeats 4000000 in
theorem nan_any (e f z c : Nat) (neg : Bool) (w : World) (hf : f < 18446744073709551616) (hc : c < 3) (hg : w.cell? ⟨0, c * 3 + 2, none⟩ = some (.bool neg)) (h0 : 0 < w.heap.size) :
    Calls Ybad.prog 7 #[.agg #[.int .u64 e, .int .u64 f, .int .u64 z], .int .u8 c] w fun r w' => r = .returned (.agg #[.int .u64 (nanHi e f neg), .int .u64 (nanLo e f neg)]) ∧ Kept w w' := by
  have HF : Hid (f < 18446744073709551616) := hf
  clear hf
  have e1 := ones_eq e
  have e2 := addW_eq e f
  have hlt1 : w.heap.size < w.heap.size + 1 + 1 := by omega
  go_enter Ybad.func7, Ybad.ntmps7
  go_wp2
  go_cut [5] (fun s5 w' => ∃ zb, s5 = .pointer (some ⟨zb, 0, none⟩) ∧ Mid w e f z zb w')
  case first =>
    go_region_held3 (fun w' => w'.cell? ⟨w.heap.size, 0, none⟩ = some (.int .u64 e) ∧ w'.cell? ⟨w.heap.size, 1, none⟩ = some (.int .u64 f) ∧ w'.cell? ⟨w.heap.size, 2, none⟩ = some (.int .u64 z)) (first | go_keep | exact far2 (by omega) (by assumption) | exact far2 (by omega) ⟨by assumption, by assumption, by assumption⟩)
      (first
        | (go_at_call 13; refine (shl_at w (.int .u64 e) (.int .u64 f) (.int .u64 z) (ones e) f _ (ones_lt e) HF.out (by go_grown) (by first | omega | (simp; done) | (simp; omega)) (by first | assumption | (simp [go_sem]; done))).mono ?_; rintro r w1 ⟨rfl, a1, a2, a3, a4, a5, a6, a7, a8, a9⟩; try (have ya0 : w1.cell? ⟨w.heap.size + 1, 0, none⟩ = some (.int .u64 0) := by (rw [a2 _ _ (by simp [*, go_sem])]; simp [*, go_sem])); try (have yaf0 : w1.frozen? ⟨w.heap.size + 1, 0, none⟩ = false := by (rw [a3 _ _ (by simp [*, go_sem])]; simp [*, go_sem])); try (have ya1 : w1.cell? ⟨w.heap.size + 1, 1, none⟩ = some (.int .u64 0) := by (rw [a2 _ _ (by simp [*, go_sem])]; simp [*, go_sem])); try (have yaf1 : w1.frozen? ⟨w.heap.size + 1, 1, none⟩ = false := by (rw [a3 _ _ (by simp [*, go_sem])]; simp [*, go_sem])); try (have ya2 : w1.cell? ⟨w.heap.size + 1 + 1, 0, none⟩ = some (.int .u64 0) := by (rw [a2 _ _ (by simp [*, go_sem])]; simp [*, go_sem])); try (have yaf2 : w1.frozen? ⟨w.heap.size + 1 + 1, 0, none⟩ = false := by (rw [a3 _ _ (by simp [*, go_sem])]; simp [*, go_sem])); try (have ya3 : w1.cell? ⟨w.heap.size + 1 + 1, 1, none⟩ = some (.int .u64 0) := by (rw [a2 _ _ (by simp [*, go_sem])]; simp [*, go_sem])); try (have yaf3 : w1.frozen? ⟨w.heap.size + 1 + 1, 1, none⟩ = false := by (rw [a3 _ _ (by simp [*, go_sem])]; simp [*, go_sem])); try (have ya4 : w1.cell? ⟨w2.heap.size, 0, none⟩ = some (.int .u64 0) := by (rw [a2 _ _ (by simp [*, go_sem])]; simp [*, go_sem])); try (have yaf4 : w1.frozen? ⟨w2.heap.size, 0, none⟩ = false := by (rw [a3 _ _ (by simp [*, go_sem])]; simp [*, go_sem])); try (have ya5 : w1.cell? ⟨w2.heap.size, 1, none⟩ = some (.int .u64 0) := by (rw [a2 _ _ (by simp [*, go_sem])]; simp [*, go_sem])); try (have yaf5 : w1.frozen? ⟨w2.heap.size, 1, none⟩ = false := by (rw [a3 _ _ (by simp [*, go_sem])]; simp [*, go_sem])); clear a2 a3)
        | (go_at_call 14; refine (setBit_at w (.int .u64 e) (.int .u64 f) (.int .u64 z) (shlHi (ones e) f) (shlLo (ones e) f) (sub1 f) _ (shlHi_lt (ones_lt e)) shlLo_lt (by go_grown) (by first | omega | (simp; done) | (simp; omega)) (by first | assumption | (simp [go_sem]; done))).mono ?_; rintro r w3 ⟨rfl, c1, c2, c3, c4, c5, c6, c7, c8, c9⟩; try (have yc0 : w3.cell? ⟨w.heap.size + 1, 0, none⟩ = some (.int .u64 0) := by (rw [c2 _ _ (by simp [*, go_sem])]; simp [*, go_sem])); try (have ycf0 : w3.frozen? ⟨w.heap.size + 1, 0, none⟩ = false := by (rw [c3 _ _ (by simp [*, go_sem])]; simp [*, go_sem])); try (have yc1 : w3.cell? ⟨w.heap.size + 1, 1, none⟩ = some (.int .u64 0) := by (rw [c2 _ _ (by simp [*, go_sem])]; simp [*, go_sem])); try (have ycf1 : w3.frozen? ⟨w.heap.size + 1, 1, none⟩ = false := by (rw [c3 _ _ (by simp [*, go_sem])]; simp [*, go_sem])); try (have yc2 : w3.cell? ⟨w.heap.size + 1 + 1, 0, none⟩ = some (.int .u64 0) := by (rw [c2 _ _ (by simp [*, go_sem])]; simp [*, go_sem])); try (have ycf2 : w3.frozen? ⟨w.heap.size + 1 + 1, 0, none⟩ = false := by (rw [c3 _ _ (by simp [*, go_sem])]; simp [*, go_sem])); try (have yc3 : w3.cell? ⟨w.heap.size + 1 + 1, 1, none⟩ = some (.int .u64 0) := by (rw [c2 _ _ (by simp [*, go_sem])]; simp [*, go_sem])); try (have ycf3 : w3.frozen? ⟨w.heap.size + 1 + 1, 1, none⟩ = false := by (rw [c3 _ _ (by simp [*, go_sem])]; simp [*, go_sem])); try (have yc4 : w3.cell? ⟨w1.heap.size, 0, none⟩ = some (.int .u64 0) := by (rw [c2 _ _ (by simp [*, go_sem])]; simp [*, go_sem])); try (have ycf4 : w3.frozen? ⟨w1.heap.size, 0, none⟩ = false := by (rw [c3 _ _ (by simp [*, go_sem])]; simp [*, go_sem])); try (have yc5 : w3.cell? ⟨w1.heap.size, 1, none⟩ = some (.int .u64 0) := by (rw [c2 _ _ (by simp [*, go_sem])]; simp [*, go_sem])); try (have ycf5 : w3.frozen? ⟨w1.heap.size, 1, none⟩ = false := by (rw [c3 _ _ (by simp [*, go_sem])]; simp [*, go_sem])); try (have yc6 : w3.cell? ⟨w2.heap.size, 0, none⟩ = some (.int .u64 0) := by (rw [c2 _ _ (by simp [*, go_sem])]; simp [*, go_sem])); try (have ycf6 : w3.frozen? ⟨w2.heap.size, 0, none⟩ = false := by (rw [c3 _ _ (by simp [*, go_sem])]; simp [*, go_sem])); try (have yc7 : w3.cell? ⟨w2.heap.size, 1, none⟩ = some (.int .u64 0) := by (rw [c2 _ _ (by simp [*, go_sem])]; simp [*, go_sem])); try (have ycf7 : w3.frozen? ⟨w2.heap.size, 1, none⟩ = false := by (rw [c3 _ _ (by simp [*, go_sem])]; simp [*, go_sem])); clear c2 c3)
        | (go_at_call 15; refine (quiet_at w (.int .u64 e) (.int .u64 f) (.int .u64 z) e f z _ (by go_grown) (by first | omega | (simp; done) | (simp; omega)) (by first | assumption | (simp [go_sem]; done))).mono ?_; rintro r w2 ⟨rfl, b1, b2, b3, b4, b5, b6, b7, b8, b9⟩; try (have yb0 : w2.cell? ⟨w.heap.size + 1, 0, none⟩ = some (.int .u64 0) := by (rw [b2 _ _ (by simp [*, go_sem])]; simp [*, go_sem])); try (have ybf0 : w2.frozen? ⟨w.heap.size + 1, 0, none⟩ = false := by (rw [b3 _ _ (by simp [*, go_sem])]; simp [*, go_sem])); try (have yb1 : w2.cell? ⟨w.heap.size + 1, 1, none⟩ = some (.int .u64 0) := by (rw [b2 _ _ (by simp [*, go_sem])]; simp [*, go_sem])); try (have ybf1 : w2.frozen? ⟨w.heap.size + 1, 1, none⟩ = false := by (rw [b3 _ _ (by simp [*, go_sem])]; simp [*, go_sem])); try (have yb2 : w2.cell? ⟨w.heap.size + 1 + 1, 0, none⟩ = some (.int .u64 0) := by (rw [b2 _ _ (by simp [*, go_sem])]; simp [*, go_sem])); try (have ybf2 : w2.frozen? ⟨w.heap.size + 1 + 1, 0, none⟩ = false := by (rw [b3 _ _ (by simp [*, go_sem])]; simp [*, go_sem])); try (have yb3 : w2.cell? ⟨w.heap.size + 1 + 1, 1, none⟩ = some (.int .u64 0) := by (rw [b2 _ _ (by simp [*, go_sem])]; simp [*, go_sem])); try (have ybf3 : w2.frozen? ⟨w.heap.size + 1 + 1, 1, none⟩ = false := by (rw [b3 _ _ (by simp [*, go_sem])]; simp [*, go_sem])); try (have yb4 : w2.cell? ⟨w1.heap.size, 0, none⟩ = some (.int .u64 0) := by (rw [b2 _ _ (by simp [*, go_sem])]; simp [*, go_sem])); try (have ybf4 : w2.frozen? ⟨w1.heap.size, 0, none⟩ = false := by (rw [b3 _ _ (by simp [*, go_sem])]; simp [*, go_sem])); try (have yb5 : w2.cell? ⟨w1.heap.size, 1, none⟩ = some (.int .u64 0) := by (rw [b2 _ _ (by simp [*, go_sem])]; simp [*, go_sem])); try (have ybf5 : w2.frozen? ⟨w1.heap.size, 1, none⟩ = false := by (rw [b3 _ _ (by simp [*, go_sem])]; simp [*, go_sem])); clear b2 b3))
    all_goals
      go_wp2_with fail
      go_meet
      case rel =>
        first
          | exact ⟨_, rfl, mid_new c1 c5 ⟨c7, c8, c9⟩ ⟨yc0, yc1, ycf0, ycf1⟩⟩
          | exact ⟨_, rfl, mid_set c1 (by omega) ⟨c7, c8, c9⟩ ⟨yc0, yc1, ycf0, ycf1⟩ (by first | assumption | exact via c2 (by simp [go_sem]) | exact via c2 (via b2 (by simp [go_sem])) | exact via c2 (via b2 (via a2 (by simp [go_sem])))) (by first | assumption | exact via c2 (by simp [go_sem]) | exact via c2 (via b2 (by simp [go_sem])) | exact via c2 (via b2 (via a2 (by simp [go_sem])))) (by first | assumption | exact viaf c3 (by simp [go_sem]) (by simp [go_sem]) | exact viaf c3 (via b2 (by simp [go_sem])) (viaf b3 (by simp [go_sem]) (by simp [go_sem])) | exact viaf c3 (via b2 (via a2 (by simp [go_sem]))) (viaf b3 (via a2 (by simp [go_sem])) (viaf a3 (by simp [go_sem]) (by simp [go_sem])))) (by first | assumption | exact viaf c3 (by simp [go_sem]) (by simp [go_sem]) | exact viaf c3 (via b2 (by simp [go_sem])) (viaf b3 (by simp [go_sem]) (by simp [go_sem])) | exact viaf c3 (via b2 (via a2 (by simp [go_sem]))) (viaf b3 (via a2 (by simp [go_sem])) (viaf a3 (by simp [go_sem]) (by simp [go_sem]))))⟩
  case rest =>
    obtain ⟨zb, rfl, hB, hz1, hz2, ⟨x0, x1, x2⟩, ⟨r0, r1, rf0, rf1⟩, z0, z1, zf0, zf1⟩ := hcut
    have hg3 : wc.cell? ⟨0, c * 3 + 2, none⟩ = some (.bool neg) := by rw [hB.cell (p := ⟨0, c * 3 + 2, none⟩) h0]; exact hg
    have hpos3 : 0 < wc.heap.size := by omega
    have hcc : (c : Int) < 3 := by omega
    have hzz : zb ≠ w.heap.size + 1 := by omega
    cases neg
    · go_wp2
      refine bodyPost_ret (v := .agg #[.int .u64 (setHi (shlHi (ones e) f) (sub1 f)), .int .u64 (setLo (shlLo (ones e) f) (sub1 f))]) (by simp [results, Ybad.results7, go_sem, r0, r1]) rfl ⟨by simp [nanHi, nanLo], Kept.of (by go_grown)⟩
    · go_wp2_with fail
      refine (setBit_at w (.int .u64 e) (.int .u64 f) (.int .u64 z) (setHi (shlHi (ones e) f) (sub1 f)) (setLo (shlLo (ones e) f) (sub1 f)) (addW e f) _ (setHi_lt (shlHi_lt (ones_lt e))) (setLo_lt shlLo_lt) hB (by omega) ⟨x0, x1, x2⟩).mono ?_
      rintro r w4 ⟨rfl, d1, d2, d3, d4, d5, d6, d7, d8, d9⟩
      have u0 : w4.cell? ⟨zb, 0, none⟩ = some (.int .u64 (setHi (shlHi (ones e) f) (sub1 f))) := by rw [d2 _ _ (by rw [z0]; rfl)]; exact z0
      have u1 : w4.cell? ⟨zb, 1, none⟩ = some (.int .u64 (setLo (shlLo (ones e) f) (sub1 f))) := by rw [d2 _ _ (by rw [z1]; rfl)]; exact z1
      have uf0 : w4.frozen? ⟨zb, 0, none⟩ = false := by rw [d3 _ _ (by rw [z0]; rfl)]; exact zf0
      have uf1 : w4.frozen? ⟨zb, 1, none⟩ = false := by rw [d3 _ _ (by rw [z1]; rfl)]; exact zf1
      have v0 : w4.cell? ⟨w.heap.size + 1, 0, none⟩ = some (.int .u64 0) := by rw [d2 _ _ (by rw [r0]; rfl)]; exact r0
      have v1 : w4.cell? ⟨w.heap.size + 1, 1, none⟩ = some (.int .u64 0) := by rw [d2 _ _ (by rw [r1]; rfl)]; exact r1
      have vf0 : w4.frozen? ⟨w.heap.size + 1, 0, none⟩ = false := by rw [d3 _ _ (by rw [r0]; rfl)]; exact rf0
      have vf1 : w4.frozen? ⟨w.heap.size + 1, 1, none⟩ = false := by rw [d3 _ _ (by rw [r1]; rfl)]; exact rf1
      clear d2 d3
      go_wp2
      refine bodyPost_ret (v := .agg #[.int .u64 (setHi (setHi (shlHi (ones e) f) (sub1 f)) (addW e f)), .int .u64 (setLo (setLo (shlLo (ones e) f) (sub1 f)) (addW e f))]) (by simp [results, Ybad.results7, go_sem, v0, v1]) rfl ⟨by simp [nanHi, nanLo], Kept.of (by go_grown)⟩
end Go.Proofs.YbulkecriDoor
