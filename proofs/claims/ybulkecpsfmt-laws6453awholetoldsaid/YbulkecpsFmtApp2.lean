import Derived.Test.YbulkecpsFmtApp
namespace Go.Proofs.YbulkecpsFmt
open Go.ChangeShapes Go.WideShapes Go.ChangeAt Go.RowKit
set_option maxRecDepth 100000

set_option maxHeartbeats 2000000 in
theorem app_second (c vb : Nat) (t : Int) (s : St) (h0 h1 g : Nat) (w : World) (hC : CAt w c s h0 h1 g) (hO : s.Ok) (hn : s.n = 1) (hgt : s.t < t) (hL : s.bs.length ≤ 800000000) (hvb : vb < 18446744073709551616) (hT : TabAt 3 Lib.deBruijn64tab w) (h3 : ¬ wfoot c g 3) :
    Calls Ybaf.prog 8 #[.pointer (some ⟨c, 0, none⟩), .int .i64 t, .float .f64 vb] w fun e w' => e = .returned .nilIface ∧ ∃ g', CAt w' c (s.next t vb) ((s.n + 1) / 256) ((s.n + 1) % 256) g' ∧ Step (wfoot c g) w (wfoot c g') w' := by
  have HL : Hid (s.bs.length ≤ 800000000) := hL
  have HV : Hid (vb < 18446744073709551616) := hvb
  clear hL hvb
  obtain ⟨sl, hblk⟩ := hC.blk
  have c2 : w.cell? ⟨c, 2, none⟩ = some (.int .u16 s.n) := cell_of_blk hblk
  have c4 : w.cell? ⟨c, 4, none⟩ = some (.int .i64 s.t) := cell_of_blk hblk
  have c5 : w.cell? ⟨c, 5, none⟩ = some (.int .i64 s.td) := cell_of_blk hblk
  have f0 := frozen_of_blk hblk
  have h7 := call7 vb
  have hclt : c < w.heap.size := hC.lt c (.inl rfl)
  have hcn : ¬ c = w.heap.size := by omega
  have hgt' : ¬ t ≤ s.t := by omega
  obtain ⟨D, hD⟩ : ∃ D : Int, D = i64 (t - s.t) := ⟨_, rfl⟩
  have hd : wrap64 (t - s.t) = D := by rw [hD]; exact w64 _
  have HD : Hid (D = i64 (t - s.t)) := hD
  obtain ⟨U, hU⟩ : ∃ U : Nat, U = u64 D := ⟨_, rfl⟩
  have hu : IntKind.u64.wrap D = (U : Int) := by rw [hU]; exact u64_cast D
  have HU : Hid (U = u64 D) := hU
  have HU2 : Hid (U < 18446744073709551616) := by rw [hU]; exact u64_lt _
  clear hD hU
  have hC1 : CAt (w.setCell ⟨c, 5, none⟩ (.int .i64 D)) c { s with td := D } h0 h1 g := hC.store 5 _ rfl rfl (fun _ _ => rfl)
  have hO1 : St.Ok { s with td := D } := ⟨hO.bit, hO.opn, hO.v, hO.lead, hO.trail⟩
  have hBn : ∀ k, wfoot c g k → k ≠ w.heap.size := fun k hk => by have := hC.lt k hk; omega
  have hl10 : (Lib.uvarint U).length ≤ 10 := Lib.uvarint_length64 HU2.out
  have z0 : ∀ o, ((w.setCell ⟨c, 5, none⟩ (.int .i64 D)).alloc o).cell? ⟨c, 5, none⟩ = some (.int .i64 D) := fun o => (hC1.alloc o).blk.elim fun sl h => cell_of_blk h
  go_enter Ybaf.func8, Ybaf.ntmps8
  go_wp2_with fail
  go_region_held3 (fun w' => w'.cell? ⟨c, 5, none⟩ = some (.int .i64 D)) (first | exact z0 _ | go_keep)
    (first | (go_at_call 22; refine (uvarint_walk w.heap.size U _ HU2.out (buf_new (w.setCell ⟨c, 5, none⟩ (.int .i64 D)) _ rfl w.heap.size (by simp)).drew).mono ?_; rintro e w2 ⟨rfl, hB2, hS2⟩; have hC2 := (hC1.alloc _).drew.apart hS2 hBn; have z5 : w2.cell? ⟨c, 5, none⟩ = some (.int .i64 D) := (hC2.blk.elim fun sl h => cell_of_blk h))
           | (go_at_call 19; refine (writes_walk c _ (Lib.uvarint U) w.heap.size 10 h0 h1 g _ hC2 hO1 hl10 (by have := HL.out; show s.bs.length ≤ _; omega) (fun i h => hB2.cell i h) hB2.lt (fun h => hBn _ h rfl)).mono ?_; rintro e w3 ⟨rfl, g3, hC3, hS3⟩; have y5 : w3.cell? ⟨c, 5, none⟩ = some (.int .i64 D) := (hC3.blk.elim fun sl h => (cell_of_blk h).trans (by show some (Value.int .i64 (St.putAll _ _).td) = _; rw [(St.putAll_rest _ _).2.2.2.1]))))
  have hSt := ((((Step.refl (wfoot c g) w).setCell (.inl rfl) _).alloc _).drew.aside hS2 (Nat.le_refl _)).trans hS3
  go_wp2_with fail
  refine (value2_walk c vb _ h0 h1 g3 _ hC3 (St.Ok.putAll _ hO1) HV.out (by have := HL.out; rw [St.putAll_length]; show s.bs.length + _ ≤ _; omega) (tab_kept hT hSt h3)).mono ?_
  rintro e w4 ⟨rfl, g4, ⟨N4, cap4, hW4⟩, hS4⟩
  have hn4 : (St.value (St.putAll { s with td := D } (Lib.uvarint U)) vb).n = 1 := (St.value_rest _ vb).1.trans ((St.putAll_rest _ _).1.trans hn)
  have m0 : w4.cell? ⟨c, 0, none⟩ = some (.slice (some ⟨g4, 0, none⟩) N4 cap4) := cell_of_blk hW4.blk
  have m2 : w4.cell? ⟨c, 2, none⟩ = some (.int .u16 1) := by rw [cell_of_blk hW4.blk]; show some (Value.int .u16 ((St.value _ vb).n : Int)) = _; rw [hn4]; rfl
  obtain ⟨y4, m4⟩ : ∃ y, w4.cell? ⟨c, 4, none⟩ = some y := ⟨_, cell_of_blk hW4.blk⟩
  obtain ⟨y6, m6⟩ : ∃ y, w4.cell? ⟨c, 6, none⟩ = some y := ⟨_, cell_of_blk hW4.blk⟩
  have mf := frozen_of_blk hW4.blk
  clear c2 c4 c5 f0
  go_wp2_with fail
  have hW5 := hW4.stored3 t vb 2
  have hS5 : Step (wfoot c g) w (wfoot c g4) (stored3 w4 c t vb 2) := Step.stored3 (hSt.trans hS4) (.inl rfl) t vb 2
  have l0 : (stored3 w4 c t vb 2).cell? ⟨c, 0, none⟩ = some (.slice (some ⟨g4, 0, none⟩) N4 cap4) := cell_of_blk hW5.blk
  have l2 : (stored3 w4 c t vb 2).cell? ⟨c, 2, none⟩ = some (.int .u16 2) := cell_of_blk hW5.blk
  rw [show ((w4.setCell ⟨c, 4, none⟩ (.int .i64 t)).setCell ⟨c, 6, none⟩ (.int .u64 (vb : Int))).setCell ⟨c, 2, none⟩ (.int .u16 2) = stored3 w4 c t vb 2 from rfl]
  generalize stored3 w4 c t vb 2 = w5 at *
  clear m0 m2 m4 m6 mf
  go_region_held3 (fun w' => w'.cell? ⟨c, 0, none⟩ = some (.slice (some ⟨g4, 0, none⟩) N4 cap4) ∧ w'.cell? ⟨c, 2, none⟩ = some (.int .u16 2)) (go_keep)
    (first | (go_at_call 25; refine (put16_walk c (2) _ _ _ h0 h1 N4 g4 cap4 _ hW5.drew (by omega)).mono ?_; rintro e w6 ⟨rfl, hW6, hS6⟩; have p0 : w6.cell? ⟨c, 0, none⟩ = some (.slice (some ⟨g4, 0, none⟩) N4 cap4) := cell_of_blk hW6.blk; have p2 : w6.cell? ⟨c, 2, none⟩ = some (.int .u16 2) := cell_of_blk hW6.blk))
  go_wp2
  go_ret
  refine ⟨rfl, g4, ⟨N4, cap4, ?_⟩, hS5.drew.trans hS6⟩
  have e2 : s.next t vb = { s.second t vb with t := t, v := vb, n := s.n + 1 } := by unfold St.next; rw [if_neg (by omega), if_neg (by omega), if_neg (by omega), if_pos hn]
  rw [e2, hn]
  unfold St.second
  rw [← HD.out, ← HU.out]
  exact hW6


set_option maxHeartbeats 2000000 in
theorem app_later (c vb : Nat) (t : Int) (s : St) (h0 h1 g : Nat) (w : World) (hC : CAt w c s h0 h1 g) (hO : s.Ok) (hn : 2 ≤ s.n) (hn2 : s.n < 65535) (hgt : s.t < t) (hL : s.bs.length ≤ 800000000) (hvb : vb < 18446744073709551616) (hT : TabAt 3 Lib.deBruijn64tab w) (h3 : ¬ wfoot c g 3) :
    Calls Ybaf.prog 8 #[.pointer (some ⟨c, 0, none⟩), .int .i64 t, .float .f64 vb] w fun e w' => e = .returned .nilIface ∧ ∃ g', CAt w' c (s.next t vb) ((s.n + 1) / 256) ((s.n + 1) % 256) g' ∧ Step (wfoot c g) w (wfoot c g') w' := by
  have HL : Hid (s.bs.length ≤ 800000000) := hL
  have HV : Hid (vb < 18446744073709551616) := hvb
  clear hL hvb
  obtain ⟨sl, hblk⟩ := hC.blk
  have c2 : w.cell? ⟨c, 2, none⟩ = some (.int .u16 s.n) := cell_of_blk hblk
  have c4 : w.cell? ⟨c, 4, none⟩ = some (.int .i64 s.t) := cell_of_blk hblk
  have c5 : w.cell? ⟨c, 5, none⟩ = some (.int .i64 s.td) := cell_of_blk hblk
  have f0 := frozen_of_blk hblk
  have h7 := call7 vb
  have hgt' : ¬ t ≤ s.t := by omega
  have hclt : c < w.heap.size := hC.lt c (.inl rfl)
  have hcn : ¬ c = w.heap.size := by omega
  have hp : (0 : Int) < (s.n : Int) := by omega
  have hn65 : ¬ s.n = 65535 := by omega
  have hn0 : ¬ s.n = 0 := by omega
  have hn1 : ¬ s.n = 1 := by omega
  obtain ⟨D, hD⟩ : ∃ D : Int, D = i64 (t - s.t) := ⟨_, rfl⟩
  have hd : wrap64 (t - s.t) = D := by rw [hD]; exact w64 _
  have HD : Hid (D = i64 (t - s.t)) := hD
  obtain ⟨E, hE⟩ : ∃ E : Int, E = i64 (D - s.td) := ⟨_, rfl⟩
  have he : wrap64 (D - s.td) = E := by rw [hE]; exact w64 _
  have HE : Hid (E = i64 (D - s.td)) := hE
  clear hD hE
  go_enter Ybaf.func8, Ybaf.ntmps8
  go_wp2_with fail
  refine (doD_walk c E s h0 h1 g _ (hC.alloc _) hO (by have := HL.out; omega)).mono ?_
  rintro e w1 ⟨rfl, g1, hC1, hS1⟩
  obtain ⟨sl1, hblk1⟩ := hC1.blk
  obtain ⟨y5, k5⟩ : ∃ y, w1.cell? ⟨c, 5, none⟩ = some y := ⟨_, cell_of_blk hblk1⟩
  have k2 : w1.cell? ⟨c, 2, none⟩ = some (.int .u16 s.n) := by rw [cell_of_blk hblk1]; show some (Value.int .u16 ((s.dod E).n : Int)) = _; rw [(St.dod_rest s E).1]
  have f1 := frozen_of_blk hblk1
  clear c2 c4 c5 f0
  have hSt := (((Step.refl (wfoot c g) w).alloc _).trans hS1).setCell (p := ⟨c, 5, none⟩) (.inl rfl) (.int .i64 D)
  have hOd := hO.dod E
  have hO3 : St.Ok { (s.dod E) with td := D } := ⟨hOd.1.bit, hOd.1.opn, hOd.1.v, hOd.1.lead, hOd.1.trail⟩
  have hC2 : CAt (w1.setCell ⟨c, 5, none⟩ (.int .i64 D)) c { (s.dod E) with td := D } h0 h1 g1 := hC1.store 5 _ rfl rfl (fun _ _ => rfl)
  go_wp2_with fail
  refine (value2_walk c vb _ h0 h1 g1 _ hC2 hO3 HV.out (by have := HL.out; have := hOd.2; show (s.dod E).bs.length ≤ _; omega) (tab_kept hT hSt h3)).mono ?_
  rintro e w4 ⟨rfl, g4, ⟨N4, cap4, hW4⟩, hS4⟩
  have hn4 : (St.value { (s.dod E) with td := D } vb).n = s.n := (St.value_rest _ vb).1.trans (St.dod_rest s E).1
  have m0 : w4.cell? ⟨c, 0, none⟩ = some (.slice (some ⟨g4, 0, none⟩) N4 cap4) := cell_of_blk hW4.blk
  have m2 : w4.cell? ⟨c, 2, none⟩ = some (.int .u16 s.n) := by rw [cell_of_blk hW4.blk]; show some (Value.int .u16 ((St.value _ vb).n : Int)) = _; rw [hn4]
  obtain ⟨y4, m4⟩ : ∃ y, w4.cell? ⟨c, 4, none⟩ = some y := ⟨_, cell_of_blk hW4.blk⟩
  obtain ⟨y6, m6⟩ : ∃ y, w4.cell? ⟨c, 6, none⟩ = some y := ⟨_, cell_of_blk hW4.blk⟩
  have mf := frozen_of_blk hW4.blk
  clear k2 k5 f1
  go_wp2_with fail
  have hW5 := hW4.stored3 t vb (s.n + 1)
  have hS5 : Step (wfoot c g) w (wfoot c g4) (stored3 w4 c t vb (s.n + 1)) := Step.stored3 (hSt.trans hS4) (.inl rfl) t vb (s.n + 1)
  have l0 : (stored3 w4 c t vb (s.n + 1)).cell? ⟨c, 0, none⟩ = some (.slice (some ⟨g4, 0, none⟩) N4 cap4) := cell_of_blk hW5.blk
  have l2 : (stored3 w4 c t vb (s.n + 1)).cell? ⟨c, 2, none⟩ = some (.int .u16 ((s.n + 1 : Nat) : Int)) := cell_of_blk hW5.blk
  rw [show ((w4.setCell ⟨c, 4, none⟩ (.int .i64 t)).setCell ⟨c, 6, none⟩ (.int .u64 (vb : Int))).setCell ⟨c, 2, none⟩ (.int .u16 ((s.n : Int) + 1)) = stored3 w4 c t vb (s.n + 1) from rfl]
  generalize stored3 w4 c t vb (s.n + 1) = w5 at *
  clear m0 m2 m4 m6 mf
  go_region_held3 (fun w' => w'.cell? ⟨c, 0, none⟩ = some (.slice (some ⟨g4, 0, none⟩) N4 cap4) ∧ w'.cell? ⟨c, 2, none⟩ = some (.int .u16 ((s.n + 1 : Nat) : Int))) (go_keep)
    (first | (go_at_call 25; refine (put16_walk c ((s.n + 1)) _ _ _ h0 h1 N4 g4 cap4 _ hW5.drew (by omega)).mono ?_; rintro e w6 ⟨rfl, hW6, hS6⟩; have p0 : w6.cell? ⟨c, 0, none⟩ = some (.slice (some ⟨g4, 0, none⟩) N4 cap4) := cell_of_blk hW6.blk; have p2 : w6.cell? ⟨c, 2, none⟩ = some (.int .u16 ((s.n + 1 : Nat) : Int)) := cell_of_blk hW6.blk))
  go_wp2
  go_ret
  refine ⟨rfl, g4, ⟨N4, cap4, ?_⟩, hS5.drew.trans hS6⟩
  have e2 : s.next t vb = { s.later t vb with t := t, v := vb, n := s.n + 1 } := by unfold St.next; rw [if_neg hn65, if_neg (by omega), if_neg hn0, if_neg hn1]
  rw [e2]
  unfold St.later
  rw [← HD.out, ← HE.out]
  exact hW6

end Go.Proofs.YbulkecpsFmt
