import Derived.Test.YbulkecpsFmtUvar
namespace Go.Proofs.YbulkecpsFmt
open Go.ChangeShapes Go.WideShapes Go.ChangeAt Go.RowKit
set_option maxRecDepth 100000

theorem u64_cast (d : Int) : IntKind.u64.wrap d = ((u64 d : Nat) : Int) := by rw [IntKind.wrap_u64]; unfold u64; omega

theorem ModelAt.alloc {w : World} {m : Nat} {s : St} {bv : Value} (h : ModelAt w m s bv) (o : Obj) : ModelAt (w.alloc o) m s bv := h.of_block fun k hk => Below.heap_alloc _ _ _ (h.lt k hk)
theorem Step.ofAlloc {F F' : Nat → Prop} {w w' : World} {o : Obj} (h : Step F (w.alloc o) F' w') : Step F w F' w' := (Step.alloc (Step.refl F w) o).trans h

set_option maxHeartbeats 1000000 in
theorem dod_walk (m : Nat) (d : Int) (s : St) (bv : Value) (w : World) (hM : ModelAt w m s bv) (hL : s.bs.length ≤ 900000000) :
    Calls Ybaf.prog 17 #[.pointer (some ⟨m, 0, none⟩), .int .i64 d] w fun e w' => e = .returned (.tuple #[]) ∧ ∃ bv', ModelAt w' m (s.dod d) bv' ∧ Step (footOf m bv) w (footOf m bv') w' := by
  have HL : Hid (s.bs.length ≤ 900000000) := hL
  clear hL
  obtain ⟨U, hU⟩ : ∃ U : Nat, U = u64 d := ⟨_, rfl⟩
  have hu : IntKind.u64.wrap d = (U : Int) := by rw [hU]; exact u64_cast d
  have HU : Hid (U = u64 d) := hU
  have HU2 : Hid (U < 18446744073709551616) := by rw [hU]; exact u64_lt d
  have hA : ∀ o1 o2, ModelAt ((w.alloc o1).alloc o2) m s bv := fun o1 o2 => (hM.alloc o1).alloc o2
  have hout : ¬ footOf m bv (w.heap.size + 1) := fun h => by have := hM.lt _ h; omega
  clear hU
  by_cases h0 : d = 0
  · subst h0
    go_enter Ybaf.func17, Ybaf.ntmps17
    go_wp2_with fail
    refine (put_walk m 0 1 s bv _ hM (by decide) (by decide) (by decide) (by have := HL.out; omega)).mono ?_
    rintro e w1 ⟨rfl, bw1, hM1, hS1⟩
    go_wp2
    go_returns
    refine ⟨rfl, bw1, ?_, hS1⟩
    rw [show s.dod 0 = s.put 0 1 from rfl]
    exact hM1
  by_cases h1 : -8191 ≤ d ∧ d ≤ 8192
  · obtain ⟨h2, h3⟩ := h1
    go_enter Ybaf.func17, Ybaf.ntmps17
    go_wp2_with fail
    refine wp_loop_rounds 5 ?_
    rw [rounds_succ]
    go_wp2_with fail
    refine (put_walk m 2 2 s bv _ (hA _ _) (by decide) (by decide) (by decide) (by have := HL.out; omega)).mono ?_
    rintro e w1 ⟨rfl, bw1, hM1, hS1⟩
    have q : w1.cell? ⟨w.heap.size + 1, 0, none⟩ = some (.int .i64 14) := by rw [World.cell?_of_block (a := ⟨w.heap.size + 1, 0, none⟩) (hS1.block (w.heap.size + 1) (by simp) hout)]; simp [go_sem]
    go_wp2_with fail
    refine (put_walk m U 14 _ bw1 _ hM1 (by decide) (by decide) HU2.out (by have := HL.out; rw [St.put_length]; omega)).mono ?_
    rintro e w2 ⟨rfl, bw2, hM2, hS2⟩
    go_wp2
    go_returns
    refine ⟨rfl, bw2, ?_, (hS1.ofAlloc.ofAlloc).trans hS2⟩
    have e : s.dod d = (s.put 2 2).put U 14 := by rw [HU.out]; unfold St.dod; rw [if_neg h0, if_pos ⟨h2, h3⟩]
    rw [e]
    exact hM2
  by_cases h4 : -65535 ≤ d ∧ d ≤ 65536
  · obtain ⟨h2, h3⟩ := h4
    by_cases hlo : -8191 ≤ d
    · have h5 : ¬ d ≤ 8192 := fun h => h1 ⟨hlo, h⟩
      go_enter Ybaf.func17, Ybaf.ntmps17
      go_wp2_with fail
      refine wp_loop_rounds 5 ?_
      rw [rounds_succ]
      go_wp2_with fail
      rw [rounds_succ]
      go_wp2_with fail
      refine (put_walk m 6 3 s bv _ (hA _ _) (by decide) (by decide) (by decide) (by have := HL.out; omega)).mono ?_
      rintro e w1 ⟨rfl, bw1, hM1, hS1⟩
      have q : w1.cell? ⟨w.heap.size + 1, 1, none⟩ = some (.int .i64 17) := by rw [World.cell?_of_block (a := ⟨w.heap.size + 1, 1, none⟩) (hS1.block (w.heap.size + 1) (by simp) hout)]; simp [go_sem]
      go_wp2_with fail
      refine (put_walk m U 17 _ bw1 _ hM1 (by decide) (by decide) HU2.out (by have := HL.out; rw [St.put_length]; omega)).mono ?_
      rintro e w2 ⟨rfl, bw2, hM2, hS2⟩
      go_wp2
      go_returns
      refine ⟨rfl, bw2, ?_, (hS1.ofAlloc.ofAlloc).trans hS2⟩
      have e : s.dod d = (s.put 6 3).put U 17 := by rw [HU.out]; unfold St.dod; rw [if_neg h0, if_neg h1, if_pos ⟨h2, h3⟩]
      rw [e]
      exact hM2
    · go_enter Ybaf.func17, Ybaf.ntmps17
      go_wp2_with fail
      refine wp_loop_rounds 5 ?_
      rw [rounds_succ]
      go_wp2_with fail
      rw [rounds_succ]
      go_wp2_with fail
      refine (put_walk m 6 3 s bv _ (hA _ _) (by decide) (by decide) (by decide) (by have := HL.out; omega)).mono ?_
      rintro e w1 ⟨rfl, bw1, hM1, hS1⟩
      have q : w1.cell? ⟨w.heap.size + 1, 1, none⟩ = some (.int .i64 17) := by rw [World.cell?_of_block (a := ⟨w.heap.size + 1, 1, none⟩) (hS1.block (w.heap.size + 1) (by simp) hout)]; simp [go_sem]
      go_wp2_with fail
      refine (put_walk m U 17 _ bw1 _ hM1 (by decide) (by decide) HU2.out (by have := HL.out; rw [St.put_length]; omega)).mono ?_
      rintro e w2 ⟨rfl, bw2, hM2, hS2⟩
      go_wp2
      go_returns
      refine ⟨rfl, bw2, ?_, (hS1.ofAlloc.ofAlloc).trans hS2⟩
      have e : s.dod d = (s.put 6 3).put U 17 := by rw [HU.out]; unfold St.dod; rw [if_neg h0, if_neg h1, if_pos ⟨h2, h3⟩]
      rw [e]
      exact hM2
  by_cases h5 : -524287 ≤ d ∧ d ≤ 524288
  · obtain ⟨h2, h3⟩ := h5
    by_cases hlo : 0 ≤ d
    · have a1 : -8191 ≤ d := by omega
      have a2 : -65535 ≤ d := by omega
      have b1 : ¬ d ≤ 8192 := by omega
      have b2 : ¬ d ≤ 65536 := by omega
      go_enter Ybaf.func17, Ybaf.ntmps17
      go_wp2_with fail
      refine wp_loop_rounds 5 ?_
      rw [rounds_succ]
      go_wp2_with fail
      rw [rounds_succ]
      go_wp2_with fail
      rw [rounds_succ]
      go_wp2_with fail
      refine (put_walk m 14 4 s bv _ (hA _ _) (by decide) (by decide) (by decide) (by have := HL.out; omega)).mono ?_
      rintro e w1 ⟨rfl, bw1, hM1, hS1⟩
      have q : w1.cell? ⟨w.heap.size + 1, 2, none⟩ = some (.int .i64 20) := by rw [World.cell?_of_block (a := ⟨w.heap.size + 1, 2, none⟩) (hS1.block (w.heap.size + 1) (by simp) hout)]; simp [go_sem]
      go_wp2_with fail
      refine (put_walk m U 20 _ bw1 _ hM1 (by decide) (by decide) HU2.out (by have := HL.out; rw [St.put_length]; omega)).mono ?_
      rintro e w2 ⟨rfl, bw2, hM2, hS2⟩
      go_wp2
      go_returns
      refine ⟨rfl, bw2, ?_, (hS1.ofAlloc.ofAlloc).trans hS2⟩
      have e : s.dod d = (s.put 14 4).put U 20 := by rw [HU.out]; unfold St.dod; rw [if_neg h0, if_neg h1, if_neg h4, if_pos ⟨h2, h3⟩]
      rw [e]
      exact hM2
    · have a1 : ¬ -8191 ≤ d := by omega
      have a2 : ¬ -65535 ≤ d := by omega
      go_enter Ybaf.func17, Ybaf.ntmps17
      go_wp2_with fail
      refine wp_loop_rounds 5 ?_
      rw [rounds_succ]
      go_wp2_with fail
      rw [rounds_succ]
      go_wp2_with fail
      rw [rounds_succ]
      go_wp2_with fail
      refine (put_walk m 14 4 s bv _ (hA _ _) (by decide) (by decide) (by decide) (by have := HL.out; omega)).mono ?_
      rintro e w1 ⟨rfl, bw1, hM1, hS1⟩
      have q : w1.cell? ⟨w.heap.size + 1, 2, none⟩ = some (.int .i64 20) := by rw [World.cell?_of_block (a := ⟨w.heap.size + 1, 2, none⟩) (hS1.block (w.heap.size + 1) (by simp) hout)]; simp [go_sem]
      go_wp2_with fail
      refine (put_walk m U 20 _ bw1 _ hM1 (by decide) (by decide) HU2.out (by have := HL.out; rw [St.put_length]; omega)).mono ?_
      rintro e w2 ⟨rfl, bw2, hM2, hS2⟩
      go_wp2
      go_returns
      refine ⟨rfl, bw2, ?_, (hS1.ofAlloc.ofAlloc).trans hS2⟩
      have e : s.dod d = (s.put 14 4).put U 20 := by rw [HU.out]; unfold St.dod; rw [if_neg h0, if_neg h1, if_neg h4, if_pos ⟨h2, h3⟩]
      rw [e]
      exact hM2
  · by_cases hlo : 0 ≤ d
    · have a1 : -8191 ≤ d := by omega
      have a2 : -65535 ≤ d := by omega
      have a3 : -524287 ≤ d := by omega
      have b1 : ¬ d ≤ 8192 := by omega
      have b2 : ¬ d ≤ 65536 := by omega
      have b3 : ¬ d ≤ 524288 := by omega
      go_enter Ybaf.func17, Ybaf.ntmps17
      go_wp2_with fail
      refine wp_loop_rounds 5 ?_
      rw [rounds_succ]
      go_wp2_with fail
      rw [rounds_succ]
      go_wp2_with fail
      rw [rounds_succ]
      go_wp2_with fail
      rw [rounds_succ]
      go_wp2_with fail
      refine (put_walk m 15 4 s bv _ (hA _ _) (by decide) (by decide) (by decide) (by have := HL.out; omega)).mono ?_
      rintro e w1 ⟨rfl, bw1, hM1, hS1⟩
      go_wp2_with fail
      refine (put_walk m U 64 _ bw1 _ hM1 (by decide) (by decide) HU2.out (by have := HL.out; rw [St.put_length]; omega)).mono ?_
      rintro e w2 ⟨rfl, bw2, hM2, hS2⟩
      go_wp2
      go_returns
      refine ⟨rfl, bw2, ?_, (hS1.ofAlloc.ofAlloc).trans hS2⟩
      have e : s.dod d = (s.put 15 4).put U 64 := by rw [HU.out]; unfold St.dod; rw [if_neg h0, if_neg h1, if_neg h4, if_neg h5]
      rw [e]
      exact hM2
    · have a1 : ¬ -8191 ≤ d := by omega
      have a2 : ¬ -65535 ≤ d := by omega
      have a3 : ¬ -524287 ≤ d := by omega
      go_enter Ybaf.func17, Ybaf.ntmps17
      go_wp2_with fail
      refine wp_loop_rounds 5 ?_
      rw [rounds_succ]
      go_wp2_with fail
      rw [rounds_succ]
      go_wp2_with fail
      rw [rounds_succ]
      go_wp2_with fail
      rw [rounds_succ]
      go_wp2_with fail
      refine (put_walk m 15 4 s bv _ (hA _ _) (by decide) (by decide) (by decide) (by have := HL.out; omega)).mono ?_
      rintro e w1 ⟨rfl, bw1, hM1, hS1⟩
      go_wp2_with fail
      refine (put_walk m U 64 _ bw1 _ hM1 (by decide) (by decide) HU2.out (by have := HL.out; rw [St.put_length]; omega)).mono ?_
      rintro e w2 ⟨rfl, bw2, hM2, hS2⟩
      go_wp2
      go_returns
      refine ⟨rfl, bw2, ?_, (hS1.ofAlloc.ofAlloc).trans hS2⟩
      have e : s.dod d = (s.put 15 4).put U 64 := by rw [HU.out]; unfold St.dod; rw [if_neg h0, if_neg h1, if_neg h4, if_neg h5]
      rw [e]
      exact hM2
end Go.Proofs.YbulkecpsFmt
