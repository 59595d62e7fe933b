import Derived.Test.YbulkecpsFmtDod2
import Derived.Test.YbulkecpsFmtValue
import Derived.Test.YbulkecpsFmtShelf
namespace Go.Proofs.YbulkecpsFmt
open Go.ChangeShapes Go.WideShapes Go.ChangeAt Go.RowKit
set_option maxRecDepth 100000

theorem CAt.alloc {w : World} {c : Nat} {s : St} {h0 h1 g : Nat} (h : CAt w c s h0 h1 g) (o : Obj) : CAt (w.alloc o) c s h0 h1 g := h.of_block fun k hk => Below.heap_alloc _ _ _ (h.lt k hk)
/-- A new block stays as it is while the chunk turns. -/
theorem box_kept {w w1 : World} {c g g1 : Nat} {s : St} {h0 h1 j : Nat} {o : Obj} (h : CAt w c s h0 h1 g) (hS : Step (wfoot c g) (w.alloc o) (wfoot c g1) w1) : w1.cell? ⟨w.heap.size, j, none⟩ = (w.alloc o).cell? ⟨w.heap.size, j, none⟩ :=
  World.cell?_of_block (a := ⟨w.heap.size, j, none⟩) (hS.block w.heap.size (by simp) (fun hf => by have := h.lt _ hf; omega))

theorem CAt.window {w : World} {c : Nat} {s : St} {h0 h1 g : Nat} (h : CAt w c s h0 h1 g) (A T : Nat) :
    CAt (((w.setCell ⟨c, 7, none⟩ (.int .i64 A)).setCell ⟨c, 8, none⟩ (.int .i64 T)).setCell ⟨c, 9, none⟩ (.bool true)) c { s with lead := A, trail := T, set := true } h0 h1 g :=
  ((h.store (s' := { s with lead := A }) 7 (.int .i64 A) rfl rfl (fun _ _ => rfl)).store (s' := { s with lead := A, trail := T }) 8 (.int .i64 T) rfl rfl (fun _ _ => rfl)).store (s' := { s with lead := A, trail := T, set := true }) 9 (.bool true) rfl rfl (fun _ _ => rfl)

set_option maxHeartbeats 2000000 in
theorem value2_walk (c vb : Nat) (s : St) (h0 h1 g : Nat) (w : World) (hC : CAt w c s h0 h1 g) (hO : s.Ok) (hv : vb < 18446744073709551616) (hL : s.bs.length ≤ 850000000) (hT : TabAt 3 Lib.deBruijn64tab w) :
    Calls Ybaf.prog 23 #[.pointer (some ⟨c, 0, none⟩), .int .u64 vb] w fun e w' => e = .returned (.tuple #[]) ∧ ∃ g', CAt w' c (s.value vb) h0 h1 g' ∧ Step (wfoot c g) w (wfoot c g') w' := by
  have HL : Hid (s.bs.length ≤ 850000000) := hL
  clear hL
  obtain ⟨sl, hblk⟩ := hC.blk
  have c6 : w.cell? ⟨c, 6, none⟩ = some (.int .u64 s.v) := cell_of_blk hblk
  have c7 : w.cell? ⟨c, 7, none⟩ = some (.int .i64 s.lead) := cell_of_blk hblk
  have c8 : w.cell? ⟨c, 8, none⟩ = some (.int .i64 s.trail) := cell_of_blk hblk
  have c9 : w.cell? ⟨c, 9, none⟩ = some (.bool s.set) := cell_of_blk hblk
  obtain ⟨X, hX⟩ : ∃ X : Nat, X = vb ^^^ s.v := ⟨_, rfl⟩
  have hx : bits BinOp.xor IntKind.u64 (vb : Int) (s.v : Int) = (X : Int) := by rw [hX]; exact bits_xor_nat _ _ hv hO.v
  have HX2 : Hid (X < 18446744073709551616) := by rw [hX]; exact xor_lt hv hO.v
  have HX : Hid (X = vb ^^^ s.v) := hX
  clear hX hv
  by_cases h0x : X = 0
  · have e2 : s.value vb = s.put 0 1 := by unfold St.value; rw [← HX.out, if_pos h0x]
    rw [e2]
    go_enter Ybaf.func23, Ybaf.ntmps23
    go_wp2_with fail
    refine (write_c c 0 1 s h0 h1 g _ hC hO (by decide) (by decide) (by decide) (by have := HL.out; omega)).mono ?_
    rintro e w1 ⟨rfl, g1, h1, hS1⟩
    go_wp2
    go_returns
    exact ⟨rfl, g1, h1, hS1⟩
  obtain ⟨A, hA⟩ : ∃ A : Nat, A = lzOf X := ⟨_, rfl⟩
  obtain ⟨T, hTT⟩ : ∃ T : Nat, T = Lib.ctz 64 X := ⟨_, rfl⟩
  obtain ⟨BL, hBL⟩ : ∃ BL : Int, BL = 64 - (Lib.bitLen X : Int) := ⟨_, rfl⟩
  have hbl := bitLen_bounds HX2.out h0x
  have hmin : min BL 31 = (A : Int) := by rw [hA, hBL]; unfold lzOf; omega
  have hlead : ∀ w, Calls Ybaf.prog 29 #[.int .u64 X] w fun e w' => e = .returned (.int .i64 BL) ∧ w' = w := fun w => by
    rw [hBL]
    exact Ybaf.bits_LeadingZeros64 X w (by omega) (by have := HX2.out; omega)
  have htrail : Calls Ybaf.prog 30 #[.int .u64 X] w fun e w' => e = .returned (.int .i64 T) ∧ w' = w := by
    rw [hTT]
    exact Ybaf.bits_TrailingZeros64 X HX2.out w (fun _ => hT)
  have hAT : A + T ≤ 63 := by rw [hA, hTT]; exact lzOf_tz HX2.out h0x
  have hA31 : A ≤ 31 := by rw [hA]; exact lzOf_le _
  have HA : Hid (A = lzOf X) := hA
  have HT : Hid (T = Lib.ctz 64 X) := hTT
  clear hA hTT hBL hbl
  by_cases hw : s.set = true ∧ s.lead ≤ A ∧ s.trail ≤ T
  · obtain ⟨hset, hl, ht⟩ := hw
    obtain ⟨Q, hQ⟩ : ∃ Q : Nat, Q = X / 2 ^ s.trail := ⟨_, rfl⟩
    obtain ⟨W, hW⟩ : ∃ W : Nat, W = 64 - s.lead - s.trail := ⟨_, rfl⟩
    have htr : s.lead + s.trail ≤ 63 := hO.trail
    have r2 : IntKind.i64.wrap (IntKind.i64.wrap (64 - (s.lead : Int)) - (s.trail : Int)) = (W : Int) := by
      rw [IntKind.wrap_i64, IntKind.wrap_i64]; omega
    have r1 : (X : Int) / 2 ^ min s.trail 64 = (Q : Int) := by
      rw [show min s.trail 64 = s.trail by omega, hQ]; exact shr_cast _ _
    have r1' : (X : Int) / 2 ^ s.trail = (Q : Int) := by rw [hQ]; exact shr_cast _ _
    have HQ : Hid (Q = X / 2 ^ s.trail) := hQ
    have HW : Hid (W = 64 - s.lead - s.trail) := hW
    have he : s.value vb = (s.put 2 2).put Q W := by
      unfold St.value
      rw [← HX.out, if_neg h0x, if_pos ⟨hset, by rw [← HA.out]; exact hl, by rw [← HT.out]; exact ht⟩, HQ.out, HW.out]
    have HE : Hid (s.value vb = (s.put 2 2).put Q W) := he
    clear hQ hW htr he
    go_enter Ybaf.func23, Ybaf.ntmps23
    go_wp2_with fail
    refine (hlead _).mono ?_
    rintro e w1 ⟨rfl, hw1⟩
    rw [hw1]
    clear hw1 w1
    go_wp2_with fail
    refine htrail.mono ?_
    rintro e w1 ⟨rfl, hw1⟩
    rw [hw1]
    clear hw1 w1
    go_wp2_with fail
    refine (write_c c 2 2 s h0 h1 g _ (hC.alloc _) hO (by decide) (by decide) (by decide) (by have := HL.out; omega)).mono ?_
    rintro e w1 ⟨rfl, g1, hC1, hS1⟩
    have d0 : w1.cell? ⟨w.heap.size, 0, none⟩ = some (.int .i64 s.lead) := by rw [box_kept hC hS1]; simp [go_sem]
    have d1 : w1.cell? ⟨w.heap.size, 1, none⟩ = some (.int .i64 s.trail) := by rw [box_kept hC hS1]; simp [go_sem]
    go_wp2_with fail
    go_region_held3 (fun w' => w'.cell? ⟨w.heap.size, 0, none⟩ = some (.int .i64 s.lead) ∧ w'.cell? ⟨w.heap.size, 1, none⟩ = some (.int .i64 s.trail)) (go_keep)
      (first | (go_at_call 21; refine (write_c c Q W _ h0 h1 g1 _ hC1.drew (hO.put 2 2) (by have := HW.out; omega) (by have := HW.out; omega) (by rw [HQ.out]; exact shr_lt _ _ HX2.out) (by have := HL.out; rw [St.put_length]; omega)).mono ?_; rintro e w2 ⟨rfl, g2, hC2, hS2⟩; have p0 : w2.cell? ⟨w.heap.size, 0, none⟩ = some (.int .i64 s.lead) := by rw [box_kept hC (hS1.drew.trans hS2)]; simp [go_sem]
                have p1 : w2.cell? ⟨w.heap.size, 1, none⟩ = some (.int .i64 s.trail) := by rw [box_kept hC (hS1.drew.trans hS2)]; simp [go_sem]))
    go_wp2
    go_returns
    exact ⟨rfl, g2, by rw [HE.out]; exact hC2, ((((Step.refl _ w).alloc _).trans hS1).drew.trans hS2)⟩
  · obtain ⟨Q, hQ⟩ : ∃ Q : Nat, Q = X / 2 ^ T := ⟨_, rfl⟩
    obtain ⟨W, hW⟩ : ∃ W : Nat, W = 64 - A - T := ⟨_, rfl⟩
    have hWI : (64 : Int) - (A : Int) - (T : Int) = (W : Int) := by omega
    have hW1 : 1 ≤ W := by omega
    have hW64 : W ≤ 64 := by omega
    have r1 : (X : Int) / 2 ^ min T 64 = (Q : Int) := by
      rw [show min T 64 = T by omega, hQ]; exact shr_cast _ _
    have r1' : (X : Int) / 2 ^ T = (Q : Int) := by rw [hQ]; exact shr_cast _ _
    have HQ : Hid (Q = X / 2 ^ T) := hQ
    have HW : Hid (W = 64 - A - T) := hW
    have he : s.value vb = { ((((s.put 3 2).put A 5).put W 6).put Q W) with lead := A, trail := T, set := true } := by
      unfold St.value
      rw [← HX.out, if_neg h0x, if_neg (by rw [← HA.out, ← HT.out]; exact hw), HQ.out, HW.out, ← HA.out, ← HT.out]
    have HE : Hid (s.value vb = { ((((s.put 3 2).put A 5).put W 6).put Q W) with lead := A, trail := T, set := true }) := he
    have hw3 : s.set = false ∨ (s.set = true ∧ A < s.lead) ∨ (s.set = true ∧ s.lead ≤ A ∧ T < s.trail) := by
      cases h : s.set with
      | false => exact .inl rfl
      | true =>
        refine .inr ?_
        by_cases hl : s.lead ≤ A
        · exact .inr ⟨rfl, hl, by
            rcases Nat.lt_or_ge T s.trail with h2 | h2
            · exact h2
            · exact absurd ⟨h, hl, h2⟩ hw⟩
        · exact .inl ⟨rfl, by omega⟩
    clear hQ hW he hw
    rcases hw3 with hset | ⟨hset, hl⟩ | ⟨hset, hl, ht⟩
    all_goals
      go_enter Ybaf.func23, Ybaf.ntmps23
      go_wp2_with fail
      refine (hlead _).mono ?_
      rintro e w1 ⟨rfl, hw1⟩
      rw [hw1]
      clear hw1 w1
      go_wp2_with fail
      refine htrail.mono ?_
      rintro e w1 ⟨rfl, hw1⟩
      rw [hw1]
      clear hw1 w1
      go_wp2_with fail
      refine (write_c c 3 2 s h0 h1 g _ (hC.alloc _) hO (by decide) (by decide) (by decide) (by have := HL.out; omega)).mono ?_
      rintro e w1 ⟨rfl, g1, hC1, hS1⟩
      go_wp2_with fail
      refine (write_c c A 5 _ h0 h1 g1 _ hC1 (hO.put _ _) (by decide) (by decide) (by omega) (by have := HL.out; rw [St.put_length]; omega)).mono ?_
      rintro e w2 ⟨rfl, g2, hC2, hS2⟩
      go_wp2_with fail
      refine (write_c c W 6 _ h0 h1 g2 _ hC2 ((hO.put _ _).put _ _) (by decide) (by decide) (by omega) (by have := HL.out; rw [St.put_length, St.put_length]; omega)).mono ?_
      rintro e w3 ⟨rfl, g3, hC3, hS3⟩
      go_wp2_with fail
      go_region_held3 (fun _ => True) (trivial)
        (first | (go_at_call 21; refine (write_c c Q W _ h0 h1 g3 _ hC3.drew (((hO.put _ _).put _ _).put _ _) (by omega) hW64 (by rw [HQ.out]; exact shr_lt _ _ HX2.out) (by have := HL.out; rw [St.put_length, St.put_length, St.put_length]; omega)).mono ?_; rintro e w4 ⟨rfl, g4, hC4, hS4⟩))
      obtain ⟨sl4, hblk4⟩ := hC4.blk
      have k7 : w4.cell? ⟨c, 7, none⟩ = some (.int .i64 s.lead) := cell_of_blk hblk4
      have k8 : w4.cell? ⟨c, 8, none⟩ = some (.int .i64 s.trail) := cell_of_blk hblk4
      have k9 : w4.cell? ⟨c, 9, none⟩ = some (.bool s.set) := cell_of_blk hblk4
      have kf := frozen_of_blk hblk4
      go_wp2
      go_returns
      exact ⟨rfl, g4, by rw [HE.out]; exact hC4.window A T, ((((((((Step.refl _ w).alloc _).trans hS1).trans hS2).trans hS3).drew.trans hS4).setCell (.inl rfl) _).setCell (.inl rfl) _).setCell (.inl rfl) _⟩
end Go.Proofs.YbulkecpsFmt
