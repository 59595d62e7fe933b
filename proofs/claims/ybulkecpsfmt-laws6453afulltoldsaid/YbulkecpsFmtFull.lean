import Derived.Test.YbulkecpsFmtLib
import Derived.LaidEql
namespace Go.Proofs.YbulkecpsFmt
open Go.ChangeShapes Go.WideShapes Go.ChangeAt Go.RowKit
set_option maxRecDepth 100000

theorem Bytes.drewN {B : Nat} {w : World} {a0 : Option Addr} {len cap : Nat} {f : Nat → Nat} (h : Bytes B w a0 len cap f) (nq : Nat) : Bytes B (w.drewN nq) a0 len cap f :=
  Bytes.below h (below_drewN (Below.refl _ _) nq) (Nat.le_refl _)
theorem c71 : (Ybaf.prog.info? 71).map (·.comparable) = some true := by kernel_rfl
theorem c73 : (Ybaf.prog.info? 73).isSome = true := by kernel_rfl
/-- 'err != err': the same error. -/
theorem same71 (w : World) (a : Addr) : (binOp .neq 35 (.iface 71 (.pointer (some a))) (.iface 71 (.pointer (some a)))).run Ybaf.prog w = .ok (.bool false) w := by
  obtain ⟨i, hi, hcmp⟩ := Option.map_eq_some_iff.1 c71
  obtain ⟨j, hj⟩ := Option.isSome_iff_exists.1 c73
  simp only [binOp]
  simp [Op.equal, Op.maxDepth, run_equalIn_iface_ptr_same w 9998 a Ybaf.underlying35 Ybaf.underlying71 hi hcmp hj]

/-- Append on a full chunk: ErrFull itself, nothing turned. -/
theorem append_full (c : Nat) (t : Int) (v x : Value) (w : World) (hn : w.cell? ⟨c, 2, none⟩ = some (.int .u16 65535)) (hg : w.cell? ⟨0, 0, none⟩ = some x) :
    Calls Ybaf.prog 8 #[.pointer (some ⟨c, 0, none⟩), .int .i64 t, v] w fun e w' => e = .returned x ∧ w' = w := by
  go_enter Ybaf.func8, Ybaf.ntmps8
  go_wp2
  go_ret
  exact ⟨rfl, rfl⟩

/-- slices.Clone, what was there said cell by cell. -/
theorem clone_at (a0 : Option Addr) (len cap : Nat) (f : Nat → Nat) (w : World) (h : Bytes w.heap.size w a0 len cap f) (hl : len ≤ 140737488351232) :
    Calls Ybaf.prog 13 #[.slice a0 len cap] w fun e w' => ∃ (a1 : Option Addr) (c : Nat), e = .returned (.slice a1 len c) ∧ Below w.heap.size w w' ∧ Bytes w'.heap.size w' a1 len c f ∧ ∀ b o, b < w.heap.size → w'.cell? ⟨b, o, none⟩ = w.cell? ⟨b, o, none⟩ :=
  (clone_any a0 len cap f w h hl).mono fun _ _ ⟨a1, c, h1, h2, h3⟩ => ⟨a1, c, h1, h2, h3, fun b o hb => h2.cell (p := ⟨b, o, none⟩) hb⟩

set_option maxHeartbeats 2000000 in
theorem full_walk (t0 t1 td v0 ld tr fr tt : Int) (st : Bool) (a0 : Option Addr) (len cap : Nat) (f : Nat → Nat) (vv : Value) (w : World) (hl : len ≤ 140737488351232) (hb : Bytes w.heap.size w a0 len cap f)
    (x : Addr) (hg : w.cell? ⟨0, 0, none⟩ = some (.iface 71 (.pointer (some x)))) (h0 : 0 < w.heap.size) :
    Calls Ybaf.prog 4 #[.agg #[.int .i64 t0, .int .i64 t1, .int .i64 td, .int .u64 v0, .int .i64 ld, .int .i64 tr, .bool st, .slice a0 len cap, .int .i64 fr], .int .i64 tt, vv] w fun e w' => e = .returned (.bool true) ∧ Below w.heap.size w w' := by
  have hA2 : ∀ o1 o2, Below w.heap.size w ((w.alloc o1).alloc o2).drew := fun o1 o2 => (((Below.refl _ _).alloc (Nat.le_refl _) o1).alloc (by simp) o2).drew
  have hbd : ∀ o1 o2, Bytes ((w.alloc o1).alloc o2).drew.heap.size ((w.alloc o1).alloc o2).drew a0 len cap f := fun o1 o2 => (hb.below (hA2 o1 o2) (Nat.le_refl _)).mono (hA2 o1 o2).size
  have hlt1 : w.heap.size < w.heap.size + 1 + 1 := by omega
  go_enter Ybaf.func4, Ybaf.ntmps4
  go_wp2
  go_region_held3 (fun w' => w'.cell? ⟨w.heap.size, 0, none⟩ = some (.int .i64 t0) ∧ w'.cell? ⟨w.heap.size, 1, none⟩ = some (.int .i64 t1) ∧ w'.cell? ⟨w.heap.size, 2, none⟩ = some (.int .i64 td) ∧ w'.cell? ⟨w.heap.size, 3, none⟩ = some (.int .u64 v0)
      ∧ w'.cell? ⟨w.heap.size, 7, none⟩ = some (.slice a0 len cap) ∧ w'.cell? ⟨w.heap.size, 8, none⟩ = some (.int .i64 fr)
      ∧ w'.cell? ⟨w.heap.size + 1, 0, none⟩ = some (.int .i64 ld) ∧ w'.cell? ⟨w.heap.size + 1, 1, none⟩ = some (.int .i64 tr) ∧ w'.cell? ⟨w.heap.size + 1, 2, none⟩ = some (.bool st)) (go_keep)
    (first | (go_at_call 13; refine (clone_at a0 len cap f _ (by exact hbd _ _) hl).mono ?_; rintro e w1 ⟨a1, c1, rfl, hB1, hb1, hk1⟩))
  have hsz1 := hB1.size
  simp only [World.size_drew, World.size_alloc] at hsz1
  have q0 : w1.cell? ⟨w.heap.size, 0, none⟩ = some (.int .i64 t0) := by rw [hk1 _ _ (by simp only [World.size_drew, World.size_alloc]; omega)]; simp [go_sem]
  have q1 : w1.cell? ⟨w.heap.size, 1, none⟩ = some (.int .i64 t1) := by rw [hk1 _ _ (by simp only [World.size_drew, World.size_alloc]; omega)]; simp [go_sem]
  have q2 : w1.cell? ⟨w.heap.size, 2, none⟩ = some (.int .i64 td) := by rw [hk1 _ _ (by simp only [World.size_drew, World.size_alloc]; omega)]; simp [go_sem]
  have q3 : w1.cell? ⟨w.heap.size, 3, none⟩ = some (.int .u64 v0) := by rw [hk1 _ _ (by simp only [World.size_drew, World.size_alloc]; omega)]; simp [go_sem]
  have q4 : w1.cell? ⟨w.heap.size, 4, none⟩ = some (.int .i64 ld) := by rw [hk1 _ _ (by simp only [World.size_drew, World.size_alloc]; omega)]; simp [go_sem]
  have q5 : w1.cell? ⟨w.heap.size, 5, none⟩ = some (.int .i64 tr) := by rw [hk1 _ _ (by simp only [World.size_drew, World.size_alloc]; omega)]; simp [go_sem]
  have q6 : w1.cell? ⟨w.heap.size, 6, none⟩ = some (.bool st) := by rw [hk1 _ _ (by simp only [World.size_drew, World.size_alloc]; omega)]; simp [go_sem]
  have q7 : w1.cell? ⟨w.heap.size, 7, none⟩ = some (.slice a0 len cap) := by rw [hk1 _ _ (by simp only [World.size_drew, World.size_alloc]; omega)]; simp [go_sem]
  have q8 : w1.cell? ⟨w.heap.size, 8, none⟩ = some (.int .i64 fr) := by rw [hk1 _ _ (by simp only [World.size_drew, World.size_alloc]; omega)]; simp [go_sem]
  have q9 : w1.cell? ⟨w.heap.size + 1, 0, none⟩ = some (.int .i64 ld) := by rw [hk1 _ _ (by simp only [World.size_drew, World.size_alloc]; omega)]; simp [go_sem]
  have q10 : w1.cell? ⟨w.heap.size + 1, 1, none⟩ = some (.int .i64 tr) := by rw [hk1 _ _ (by simp only [World.size_drew, World.size_alloc]; omega)]; simp [go_sem]
  have q11 : w1.cell? ⟨w.heap.size + 1, 2, none⟩ = some (.bool st) := by rw [hk1 _ _ (by simp only [World.size_drew, World.size_alloc]; omega)]; simp [go_sem]
  have hBw := (hA2 _ _).trans (hB1.mono (hA2 _ _).size)
  have hg1 : w1.cell? ⟨0, 0, none⟩ = some (.iface 71 (.pointer (some x))) := by rw [hBw.cell (p := ⟨0, 0, none⟩) h0]; exact hg
  have hg2 : ∀ o, (w1.alloc o).cell? ⟨0, 0, none⟩ = some (.iface 71 (.pointer (some x))) := fun o => by rw [World.cell?_alloc_past _ _ _ (by show 0 < _; omega)]; exact hg1
  have hb0 := hb.below hBw (Nat.le_refl _)
  clear hk1 hB1 hA2 hbd
  go_wp2_with fail
  refine (append_full w1.heap.size tt vv _ _ (by simp [go_sem]) (hg2 _)).mono ?_
  rintro e2 w2 ⟨rfl, rfl⟩
  have hs := same71
  go_wp2_with fail
  have hA : ∀ o, Below w1.heap.size w1 (w1.alloc o) := fun o => (Below.refl _ _).alloc (Nat.le_refl _) o
  have he := fun (o : Obj) (n : Nat) => equal_any (B := w1.heap.size) (B' := w.heap.size) a1 a0 len c1 cap f ((w1.alloc o).drewN n) hl (Bytes.drewN (hb1.below (hA o) (Nat.le_refl _)) n) (Bytes.drewN (hb0.below (hA o) (by omega)) n)
  go_quiet ((go_at_call 11; exact Calls.quiet_of (he _ _)))
  go_wp2
  go_ret
  exact ⟨rfl, below_drewN (hBw.trans ((hA _).mono (by omega))) _⟩
end Go.Proofs.YbulkecpsFmt
