import Derived.Test.YbulkecpsDoorLib
import Derived.LaidEql
namespace Go.Proofs.YbulkecpsDoor
open Go.ChangeShapes Go.WideShapes Go.ChangeAt Go.RowKit
set_option maxRecDepth 100000

theorem c36 : (Ybad.prog.info? 36).map (·.comparable) = some true := by kernel_rfl
theorem c38 : (Ybad.prog.info? 38).isSome = true := by kernel_rfl
/-- 'err == err': the same error. -/
theorem same36 (w : World) (a : Addr) : (binOp .eql 26 (.iface 36 (.pointer (some a))) (.iface 36 (.pointer (some a)))).run Ybad.prog w = .ok (.bool true) w := by
  obtain ⟨i, hi, hcmp⟩ := Option.map_eq_some_iff.1 c36
  obtain ⟨j, hj⟩ := Option.isSome_iff_exists.1 c38
  exact run_eql_iface_ptr_same w a Ybad.underlying26 Ybad.underlying36 hi hcmp hj

/-- errors.New. -/
theorem new_any (s : ByteArray) (w : World) : Calls Ybad.prog 4 #[.string s] w fun e w' => e = .returned (.iface 36 (.pointer (some ⟨w.heap.size, 0, none⟩))) ∧ w' = w.alloc (.cells #[.string s] 38) := by
  go_enter Ybad.func4, Ybad.ntmps4
  go_wp2
  go_ret
  exact ⟨rfl, rfl⟩

/-- More than a mebibyte: true at once. -/
theorem law_long (a0 : Option Addr) (len cap : Nat) (pos e n : Int) (w : World) (h : 1048576 < (len : Int)) :
    Calls Ybad.prog 3 #[.slice a0 len cap, .int .u32 pos, .int .u8 e, .int .i64 n] w fun e w' => e = .returned (.bool true) ∧ Below w.heap.size w w' := by
  go_enter Ybad.func3, Ybad.ntmps3
  go_wp2
  go_ret
  exact ⟨rfl, Below.refl _ _⟩

set_option maxHeartbeats 1000000 in
theorem law_bits (a0 : Option Addr) (len cap p m : Nat) (f : Nat → Nat) (pos e : Int) (w : World) (hl : len ≤ 1048576) (hb : Bytes w.heap.size w a0 len cap f) (hf : ∀ i, f i ≤ 255) (hp : 0 ≤ pos) (hp' : pos ≤ 4294967295) (he : 0 ≤ e) (he' : e ≤ 255) (h4 : e % 4 = 0)
    (hw : wrap64 (pos % (len * 8 + 1)) = (p : Nat)) (hn : 1 ≤ m) (hn' : p + m ≤ len * 8) :
    Calls Ybad.prog 3 #[.slice a0 len cap, .int .u32 pos, .int .u8 e, .int .i64 m] w fun e w' => e = .returned (.bool true) ∧ Below w.heap.size w w' := by
  go_enter Ybad.func3, Ybad.ntmps3
  go_wp2_with fail
  refine (clone_any a0 len cap f w hb hl).mono ?_
  rintro e1 w1 ⟨a1, c1, rfl, hB1, hb1⟩
  go_wp2_with fail
  have hb0 := (hb.below hB1 (Nat.le_refl _))
  have hsz := hB1.size
  obtain ⟨b, off, rfl, hlt, hc⟩ := hb0.at (by omega)
  obtain ⟨b', off', rfl, hlt', hc'⟩ := hb1.at (by omega)
  have hnew : ∀ (x : Nat) (o : Nat) (B : Obj), x < w1.heap.size → (w1.alloc B).cell? ⟨x, o, none⟩ = w1.cell? ⟨x, o, none⟩ := fun x o B h => World.cell?_alloc_past _ _ _ h
  refine (read_bits b off len cap w1.heap.size f p m _ (fun i hi => by rw [hnew _ _ _ (by omega)]; exact hc i hi) hf hl hn' (by simp [go_sem]) (by simp [go_sem]) (by simp [go_sem]) (by omega) (by simp [go_sem])).mono ?_
  rintro e2 w2 ⟨rfl, hB2, hr0, hr1, hr2⟩
  have hcb : ∀ i, i < len → w2.cell? ⟨b, off + i, none⟩ = some (.int .u8 (f i)) := fun i hi => by rw [hB2.cell (p := ⟨b, off + i, none⟩) (by show b < _; omega), hnew _ _ _ (by omega)]; exact hc i hi
  have hcb' : ∀ i, i < len → w2.cell? ⟨b', off' + i, none⟩ = some (.int .u8 (f i)) := fun i hi => by rw [hB2.cell (p := ⟨b', off' + i, none⟩) hlt', hnew _ _ _ hlt']; exact hc' i hi
  go_wp2_with fail
  refine (equal_any (B := w1.heap.size) (B' := w1.heap.size) _ _ len cap c1 f w2 (.inr (.inr ⟨b, off, rfl, by omega, hcb⟩)) (.inr (.inr ⟨b', off', rfl, hlt', hcb'⟩))).mono ?_
  rintro e3 w3 ⟨rfl, rfl⟩
  go_wp2_with fail
  refine (model_any b' off' len c1 f p m w3 hcb' hf hl hn').mono ?_
  rintro e3 w3 ⟨rfl, rfl⟩
  go_wp2
  go_ret
  exact ⟨rfl, (hB1.alloc (by omega) _).trans (hB2.mono (by omega))⟩

set_option maxHeartbeats 1000000 in
theorem law_none (a0 : Option Addr) (len cap p : Nat) (f : Nat → Nat) (pos e n : Int) (w : World) (hl : len ≤ 1048576) (hb : Bytes w.heap.size w a0 len cap f) (hp : 0 ≤ pos) (hp' : pos ≤ 4294967295) (he : 0 ≤ e) (he' : e ≤ 255) (h4 : e % 4 = 0)
    (hw : wrap64 (pos % (len * 8 + 1)) = (p : Nat)) (hpl : p ≤ len * 8) (hn : n ≤ 0) :
    Calls Ybad.prog 3 #[.slice a0 len cap, .int .u32 pos, .int .u8 e, .int .i64 n] w fun e w' => e = .returned (.bool true) ∧ Below w.heap.size w w' := by
  have hn2 : ¬ (len : Int) * 8 - p < n := by omega
  go_enter Ybad.func3, Ybad.ntmps3
  go_wp2_with fail
  refine (clone_any a0 len cap f w hb hl).mono ?_
  rintro e1 w1 ⟨a1, c1, rfl, hB1, hb1⟩
  go_wp2_with fail
  have hb0 := (hb.below hB1 (Nat.le_refl _))
  have hsz := hB1.size
  refine (read_none w1.heap.size a0 len cap p n _ (by simp [go_sem]) (by simp [go_sem]) (by simp [go_sem]) hl hpl hn).mono ?_
  rintro e2 w2 ⟨rfl, nq, rfl⟩
  go_wp2_with fail
  have hA : ∀ o, Below w1.heap.size w1 ((w1.alloc o).drewN nq) := fun o => below_drewN ((Below.refl _ _).alloc (Nat.le_refl _) o) nq
  refine (equal_any (B := w.heap.size) (B' := w1.heap.size) _ _ len cap c1 f _ (hb0.below (hA _) (by omega)) (hb1.below (hA _) (Nat.le_refl _))).mono ?_
  rintro e3 w3 ⟨rfl, rfl⟩
  go_wp2
  go_ret
  exact ⟨rfl, hB1.trans ((hA _).mono (by omega))⟩

set_option maxHeartbeats 1000000 in
theorem law_short (a0 : Option Addr) (len cap p : Nat) (f : Nat → Nat) (pos e n : Int) (w : World) (hl : len ≤ 1048576) (hb : Bytes w.heap.size w a0 len cap f) (hp : 0 ≤ pos) (hp' : pos ≤ 4294967295) (he : 0 ≤ e) (he' : e ≤ 255) (h4 : e % 4 = 0) (x : Addr) (hg : w.cell? ⟨0, 0, none⟩ = some (.iface 36 (.pointer (some x)))) (h0 : 0 < w.heap.size)
    (hw : wrap64 (pos % (len * 8 + 1)) = (p : Nat)) (hpl : p ≤ len * 8) (hn : (len : Int) * 8 - p < n) :
    Calls Ybad.prog 3 #[.slice a0 len cap, .int .u32 pos, .int .u8 e, .int .i64 n] w fun e w' => e = .returned (.bool true) ∧ Below w.heap.size w w' := by
  go_enter Ybad.func3, Ybad.ntmps3
  go_wp2_with fail
  refine (clone_any a0 len cap f w hb hl).mono ?_
  rintro e1 w1 ⟨a1, c1, rfl, hB1, hb1⟩
  go_wp2_with fail
  have hb0 := (hb.below hB1 (Nat.le_refl _))
  have hsz := hB1.size
  have hg1 : w1.cell? ⟨0, 0, none⟩ = some (.iface 36 (.pointer (some x))) := by rw [hB1.cell (p := ⟨0, 0, none⟩) h0]; exact hg
  have hg2 : ∀ o, (w1.alloc o).cell? ⟨0, 0, none⟩ = some (.iface 36 (.pointer (some x))) := fun o => by rw [World.cell?_alloc_past _ _ _ (by show 0 < _; omega)]; exact hg1
  refine (read_short w1.heap.size a0 len cap p n 36 x _ (by simp [go_sem]) (by simp [go_sem]) (by simp [go_sem]) (by simp [go_sem]) (hg2 _) hl hpl hn).mono ?_
  rintro e2 w2 ⟨rfl, nq, rfl⟩
  go_wp2_with fail
  have hA : ∀ o, Below w1.heap.size w1 ((w1.alloc o).drewN nq) := fun o => below_drewN ((Below.refl _ _).alloc (Nat.le_refl _) o) nq
  refine (equal_any (B := w.heap.size) (B' := w1.heap.size) _ _ len cap c1 f _ (hb0.below (hA _) (by omega)) (hb1.below (hA _) (Nat.le_refl _))).mono ?_
  rintro e3 w3 ⟨rfl, rfl⟩
  have hs := same36
  go_wp2
  go_quiet (fail)
  go_wp2
  go_ret
  exact ⟨rfl, below_drewN (hB1.trans ((hA _).mono (by omega))) _⟩

set_option maxHeartbeats 1000000 in
theorem law_err1 (a0 : Option Addr) (len cap p : Nat) (f : Nat → Nat) (pos e n : Int) (w : World) (hl : len ≤ 1048576) (hb : Bytes w.heap.size w a0 len cap f) (hp : 0 ≤ pos) (hp' : pos ≤ 4294967295) (he : 0 ≤ e) (he' : e ≤ 255) (h4 : e % 4 = 1) (x : Addr) (hg : w.cell? ⟨0, 0, none⟩ = some (.iface 36 (.pointer (some x))))
    (hw : wrap64 (pos % (len * 8 + 1)) = (p : Nat)) :
    Calls Ybad.prog 3 #[.slice a0 len cap, .int .u32 pos, .int .u8 e, .int .i64 n] w fun e w' => e = .returned (.bool true) ∧ Below w.heap.size w w' := by
  go_enter Ybad.func3, Ybad.ntmps3
  go_wp2_with fail
  refine (clone_any a0 len cap f w hb hl).mono ?_
  rintro e1 w1 ⟨a1, c1, rfl, hB1, hb1⟩
  go_wp2_with fail
  have hb0 := (hb.below hB1 (Nat.le_refl _))
  have hsz := hB1.size
  refine (read_err w1.heap.size n 36 (.pointer (some x)) _ (by simp [go_sem])).mono ?_
  rintro e2 w2 ⟨rfl, rfl⟩
  go_wp2_with fail
  have hA : ∀ o, Below w1.heap.size w1 (w1.alloc o) := fun o => (Below.refl _ _).alloc (Nat.le_refl _) o
  refine (equal_any (B := w.heap.size) (B' := w1.heap.size) _ _ len cap c1 f _ (hb0.below (hA _) (by omega)) (hb1.below (hA _) (Nat.le_refl _))).mono ?_
  rintro e3 w3 ⟨rfl, rfl⟩
  have hs := same36
  go_wp2
  go_ret
  exact ⟨rfl, hB1.trans ((hA _).mono (by omega))⟩

set_option maxHeartbeats 1000000 in
theorem law_err2 (a0 : Option Addr) (len cap p : Nat) (f : Nat → Nat) (pos e n : Int) (w : World) (hl : len ≤ 1048576) (hb : Bytes w.heap.size w a0 len cap f) (hp : 0 ≤ pos) (hp' : pos ≤ 4294967295) (he : 0 ≤ e) (he' : e ≤ 255) (h4 : e % 4 = 2) (x : Addr) (hg : w.cell? ⟨1, 0, none⟩ = some (.iface 36 (.pointer (some x))))
    (hw : wrap64 (pos % (len * 8 + 1)) = (p : Nat)) :
    Calls Ybad.prog 3 #[.slice a0 len cap, .int .u32 pos, .int .u8 e, .int .i64 n] w fun e w' => e = .returned (.bool true) ∧ Below w.heap.size w w' := by
  go_enter Ybad.func3, Ybad.ntmps3
  go_wp2_with fail
  refine (clone_any a0 len cap f w hb hl).mono ?_
  rintro e1 w1 ⟨a1, c1, rfl, hB1, hb1⟩
  go_wp2_with fail
  have hb0 := (hb.below hB1 (Nat.le_refl _))
  have hsz := hB1.size
  refine (read_err w1.heap.size n 36 (.pointer (some x)) _ (by simp [go_sem])).mono ?_
  rintro e2 w2 ⟨rfl, rfl⟩
  go_wp2_with fail
  have hA : ∀ o, Below w1.heap.size w1 (w1.alloc o) := fun o => (Below.refl _ _).alloc (Nat.le_refl _) o
  refine (equal_any (B := w.heap.size) (B' := w1.heap.size) _ _ len cap c1 f _ (hb0.below (hA _) (by omega)) (hb1.below (hA _) (Nat.le_refl _))).mono ?_
  rintro e3 w3 ⟨rfl, rfl⟩
  have hs := same36
  go_wp2
  go_ret
  exact ⟨rfl, hB1.trans ((hA _).mono (by omega))⟩

set_option maxHeartbeats 1000000 in
theorem law_err3 (a0 : Option Addr) (len cap p : Nat) (f : Nat → Nat) (pos e n : Int) (w : World) (hl : len ≤ 1048576) (hb : Bytes w.heap.size w a0 len cap f) (hp : 0 ≤ pos) (hp' : pos ≤ 4294967295) (he : 0 ≤ e) (he' : e ≤ 255) (h4 : e % 4 = 3)
    (hw : wrap64 (pos % (len * 8 + 1)) = (p : Nat)) :
    Calls Ybad.prog 3 #[.slice a0 len cap, .int .u32 pos, .int .u8 e, .int .i64 n] w fun e w' => e = .returned (.bool true) ∧ Below w.heap.size w w' := by
  go_enter Ybad.func3, Ybad.ntmps3
  go_wp2_with (go_at_call 4; refine (new_any _ _).mono ?_; rintro e1 w1 ⟨rfl, rfl⟩)
  have hA0 : ∀ o, Below w.heap.size w (w.alloc o) := fun o => (Below.refl _ _).alloc (Nat.le_refl _) o
  have hs0 : ∀ o, w.heap.size + 1 = (w.alloc o).heap.size := fun o => by simp
  refine (clone_any a0 len cap f _ ((hb.below (hA0 _) (Nat.le_refl _)).mono (hA0 _).size) hl).mono ?_
  rintro e1 w1 ⟨a1, c1, rfl, hB1, hb1⟩
  have hB1' := (hA0 _).trans (hB1.mono (hA0 _).size)
  have hb0 := (hb.below hB1' (Nat.le_refl _))
  have hsz := hB1'.size
  clear hs0
  go_wp2_with fail
  refine (read_err w1.heap.size n 36 (.pointer (some ⟨w.heap.size, 0, none⟩)) _ (by simp [go_sem])).mono ?_
  rintro e2 w2 ⟨rfl, rfl⟩
  go_wp2_with fail
  have hA : ∀ o, Below w1.heap.size w1 (w1.alloc o) := fun o => (Below.refl _ _).alloc (Nat.le_refl _) o
  refine (equal_any (B := w.heap.size) (B' := w1.heap.size) _ _ len cap c1 f _ (hb0.below (hA _) (by omega)) (hb1.below (hA _) (Nat.le_refl _))).mono ?_
  rintro e3 w3 ⟨rfl, rfl⟩
  have hs := same36
  go_wp2
  go_ret
  exact ⟨rfl, hB1'.trans ((hA _).mono (by omega))⟩
end Go.Proofs.YbulkecpsDoor
