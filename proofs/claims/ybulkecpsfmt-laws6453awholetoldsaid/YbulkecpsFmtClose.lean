import Derived.Test.YbulkecpsFmtChunk
import Derived.Deep.RegionLaw
namespace Go.Proofs.YbulkecpsFmt
open Go.ChangeShapes Go.WideShapes Go.ChangeAt Go.RowKit
set_option maxRecDepth 100000

theorem close_idle (c p q free : Nat) (o : Bool) (u : FrameMode) (w : World) (hp : w.cell? ⟨p, 0, none⟩ = some (.bool o)) (hq : w.cell? ⟨q, 0, none⟩ = some (.pointer (some ⟨c, 0, none⟩))) (hf : w.cell? ⟨c, 1, none⟩ = some (.int .i64 free)) (h : o = false ∨ free ≠ 0) :
    CallsD Ybaf.prog 28 #[.pointer (some ⟨p, 0, none⟩), .pointer (some ⟨q, 0, none⟩)] u w fun e u' w' => u' = u ∧ (e = .returned (.tuple #[]) ∧ w' = w) := by
  by_cases ho : o = true
  · have h0 : ¬ free = 0 := by rcases h with h | h; (rw [h] at ho; cases ho); exact h
    subst ho
    go_enter_d Ybaf.func28, Ybaf.ntmps28
    go_wp2
    go_end0
    exact ⟨rfl, rfl⟩
  · have ho' : o = false := by simpa using ho
    subst ho'
    go_enter_d Ybaf.func28, Ybaf.ntmps28
    go_wp2
    go_end0
    exact ⟨rfl, rfl⟩

/-- A region, and behind it one goal alone. -/
def CutPost (R : Act → World → Prop) : Exit → Act → World → Prop
  | .normal, a, w => R a w
  | _, _, _ => False
theorem region_cut {P : Program} {id : Nat} {ops : Array Oper} {b : Bool} {Q : Exit → Act → World → Prop} {a : Act} {w : World} (R : Act → Act → World → Prop)
    (hreg : (Code.region id ops b).wp P (CutPost (R a)) a w) (hrest : ∀ a' w', R a a' w' → Q .normal a' w') : (Code.region id ops b).wp P Q a w :=
  Code.wp_mono (fun e a' w' h => by cases e <;> first | exact hrest a' w' h | exact (h : False).elim) hreg

/-- The world behind the appending of one byte to the chunk's row. -/
structure Grew (w w1 : World) (N g cap : Nat) (xs : List Value) (g' cap' : Nat) : Prop where
  own : w1.ownsRow 0 5 1 (.slice (some ⟨g', 0, none⟩) (N + 1) cap') (N + 1) (xs ++ [.int .u8 0])
  step : Step (fun k => k = g) w (fun k => k = g') w1

theorem grew_of {w w1 : World} {o : Obj} {N g cap : Nat} {xs : List Value} {g' cap' H : Nat} (hown : w1.ownsRow 0 5 1 (.slice (some ⟨g', 0, none⟩) (N + 1) cap') (N + 1) (xs ++ [.int .u8 0])) (hgrow : (w.drew.alloc o).grownBy w1 (Value.ownBlock (.slice (some ⟨g, 0, none⟩) N cap)))
    (hat : Value.ownBlock (.slice (some ⟨g, 0, none⟩) N cap) = some g' ∨ g' = H) (hH : (w.drew.alloc o).heap.size ≤ H) : Grew w w1 N g cap xs g' cap' := by
  refine ⟨hown, Step.grown ((Step.refl (fun k => k = g) w).drew.alloc o) hgrow (fun k hk => ?_) (fun k hk => ?_) ⟩
  · simp [Value.ownBlock] at hk; exact hk.symm
  · subst hk
    rcases hat with h | h
    · simp [Value.ownBlock] at h; exact .inl h.symm
    · exact .inr (by rw [h]; exact hH)

set_option maxHeartbeats 4000000 in
theorem close_opens (c p q : Nat) (s : St) (bs : List Nat) (h0 h1 N g cap : Nat) (u : FrameMode) (w : World) (hp : w.cell? ⟨p, 0, none⟩ = some (.bool true)) (hq : w.cell? ⟨q, 0, none⟩ = some (.pointer (some ⟨c, 0, none⟩)))
    (hqg : q ≠ g) (hqc : q ≠ c) (hW : WAt w c s bs 0 h0 h1 N g cap) (hal : bs.length % 8 = 0) (hL : bs.length ≤ 1000000000) :
    CallsD Ybaf.prog 28 #[.pointer (some ⟨p, 0, none⟩), .pointer (some ⟨q, 0, none⟩)] u w fun e u' w' => u' = u ∧ (e = .returned (.tuple #[]) ∧ ∃ N' g' cap', WAt w' c s bs 8 h0 h1 N' g' cap' ∧ Step (wfoot c g) w (wfoot c g') w') := by
  obtain ⟨i0, hi, hz0, hz1, hz2⟩ := info_parts info5
  have c0 : w.cell? ⟨c, 0, none⟩ = some (.slice (some ⟨g, 0, none⟩) N cap) := cell_of_blk hW.blk
  have c1 : w.cell? ⟨c, 1, none⟩ = some (.int .i64 0) := cell_of_blk hW.blk
  have f0 := frozen_of_blk hW.blk
  have hclt : c < w.heap.size := hW.lt c (.inl rfl)
  have hqlt : q < w.heap.size := World.block_lt_of_cell? w ⟨q, 0, none⟩ hq
  have hcn : ¬ c = w.heap.size := by omega
  have hqn : ¬ q = w.heap.size := by omega
  go_enter_d Ybaf.func28, Ybaf.ntmps28
  go_wp2
  refine region_cut (fun a a' w' => ∃ (g' cap' : Nat) (w1 : World), a' = ((((((((a.put (some 10) (.pointer (some ⟨c, 0, none⟩))).put (some 11) (.pointer (some ⟨c, 0, none⟩))).put (some 12) (.pointer (some ⟨c, 0, none⟩))).put (some 13) (.pointer (some ⟨c, 0, none⟩))).put (some 14) (.slice (some ⟨g, 0, none⟩) N cap)).put (some 15) (.slice (some ⟨w.heap.size, 0, none⟩) 1 1)).put (some 16) (.slice (some ⟨g', 0, none⟩) (N + 1) cap')).put (some 17) (.pointer (some ⟨c, 0, none⟩))).put (some 18) (.pointer (some ⟨c, 0, none⟩)) ∧
      Grew w w1 N g cap (u8s (enc h0 h1 bs 0)) g' cap' ∧ w' = w1.setCell ⟨c, 0, none⟩ (.slice (some ⟨g', 0, none⟩) (N + 1) cap')) ?_ ?_
  · go_region_law (refine step_append_lies _ rfl _ _ 26 rfl 0 5 i0 (.int .u8 0) 1 1 Ybaf.underlying26 hi hz0 hz1 hz2 rfl (by decide) (.slice (some ⟨g, 0, none⟩) N cap) N (u8s (enc h0 h1 bs 0)) (by simp [Act.eval]) (by first | exact (hW.alloc _).drew.own | exact (hW.alloc _).own) ⟨w.heap.size, 0, none⟩ 1 1 [Value.int .u8 0] (by simp [Act.eval]) rfl (by exact cell_one_new _ _ _) (by intro u hu; simp at hu; subst hu; rfl) (by decide) (by have := hW.len; unfold maxLen; omega) (by have := hW.len; omega) (Nat.zero_le _) _ rfl ?_; intro g' cap' w1 hown1 hgrow hat hlt; have hG : Grew w w1 N g cap (u8s (enc h0 h1 bs 0)) g' cap' := grew_of hown1 hgrow hat (by simp); have k1 : w1.cell? ⟨q, 0, none⟩ = some (.pointer (some ⟨c, 0, none⟩)) := (World.cell?_of_block (a := ⟨q, 0, none⟩) (hG.step.block q hqlt hqg)).trans hq; have hblk := (hG.step.block c hclt (fun e => hW.ne e.symm)).trans hW.blk; have k2 : w1.cell? ⟨c, 0, none⟩ = some (.slice (some ⟨g, 0, none⟩) N cap) := cell_of_blk hblk; have k3 := frozen_of_blk hblk; clear hblk hgrow hat hown1)
    all_goals (refine ⟨_, _, _, ?_, hG, rfl⟩; simp only [Act.put, List.setIfInBounds_toArray, List.set_cons_zero, List.set_cons_succ])
  · rintro a' w' ⟨g', cap', w1, rfl, hG, rfl⟩
    have hblk := (hG.step.block c hclt (fun e => hW.ne e.symm)).trans hW.blk
    have d1 : (w1.setCell ⟨c, 0, none⟩ (.slice (some ⟨g', 0, none⟩) (N + 1) cap')).cell? ⟨c, 1, none⟩ = some (.int .i64 0) := cell_of_blk (blk_set hblk 0 _)
    have d2 : ∀ j, (w1.setCell ⟨c, 0, none⟩ (.slice (some ⟨g', 0, none⟩) (N + 1) cap')).frozen? ⟨c, j, none⟩ = false := frozen_of_blk (blk_set hblk 0 _)
    have d3 : (w1.setCell ⟨c, 0, none⟩ (.slice (some ⟨g', 0, none⟩) (N + 1) cap')).cell? ⟨q, 0, none⟩ = some (.pointer (some ⟨c, 0, none⟩)) := (World.cell?_of_block (a := ⟨q, 0, none⟩) ((Below.heap_setCell _ _ _ _ hqc).trans (hG.step.block q hqlt hqg))).trans hq
    have hg'c : g' ≠ c := by
      intro e
      subst e
      rcases hG.step.foot g' rfl with h | h
      · exact hW.ne h.symm
      · omega
    simp only [Act.put, List.setIfInBounds_toArray, List.set_cons_zero, List.set_cons_succ]
    clear c0 c1 f0 hq
    go_wp2
    go_end0
    refine ⟨rfl, N + 1, g', cap', ⟨(blk_set (blk_set hblk 0 _) 1 _).trans rfl, ?_, by have := hW.len; omega⟩, ?_⟩
    · rw [enc_open h0 h1 bs hal, u8s_append]
      exact own_other (own_other hG.own (by simp [Value.ownBlock]; exact hg'c) _) (by simp [Value.ownBlock]; exact hg'c) _
    · refine Step.setCell (Step.setCell (F' := wfoot c g') ?_ (.inl rfl) _) (.inl rfl) _
      exact ⟨hG.step.os, hG.step.tape, hG.step.output, hG.step.size, fun k hk hn => hG.step.block k hk (fun e => hn (.inr e)), fun k hk => by
        rcases hk with h | h
        · exact .inl (.inl h)
        · rcases hG.step.foot k h with h' | h'
          · exact .inl (.inr h')
          · exact .inr h'⟩
end Go.Proofs.YbulkecpsFmt
