import Derived.Test.YbulkecpsFmtNew
import Derived.Test.YbulkecpsFmtErr
import Derived.Test.YbulkecpsFmtVal2
import Derived.Test.YbulkecpsFmtVar
namespace Go.Proofs.YbulkecpsFmt
open Go.ChangeShapes Go.WideShapes Go.ChangeAt Go.RowKit
set_option maxRecDepth 100000

theorem call7 (x : Nat) (w : World) : (callFunc 7 #[.float .f64 x]).run Ybaf.prog w = .ok (.value (.int .u64 x)) w := by kernel_rfl

/-- Append on a full chunk: ErrFull itself, nothing turned. -/
theorem app_full (c : Nat) (t : Int) (v x : Value) (s : St) (h0 h1 g : Nat) (w : World) (hC : CAt w c s h0 h1 g) (hf : s.n = 65535) (hg : w.cell? ⟨0, 0, none⟩ = some x) :
    Calls Ybaf.prog 8 #[.pointer (some ⟨c, 0, none⟩), .int .i64 t, v] w fun e w' => e = .returned x ∧ w' = w := by
  obtain ⟨sl, hblk⟩ := hC.blk
  have hn : w.cell? ⟨c, 2, none⟩ = some (.int .u16 65535) := by rw [cell_of_blk hblk]; show some (Value.int .u16 (s.n : Int)) = _; rw [hf]; rfl
  go_enter Ybaf.func8, Ybaf.ntmps8
  go_wp2
  go_ret
  exact ⟨rfl, rfl⟩

set_option maxHeartbeats 2000000 in
theorem app_late (c : Nat) (t : Int) (v : Value) (s : St) (h0 h1 g : Nat) (w : World) (hC : CAt w c s h0 h1 g) (hf : s.n ≠ 65535) (hp : 0 < s.n) (hle : t ≤ s.t) :
    Calls Ybaf.prog 8 #[.pointer (some ⟨c, 0, none⟩), .int .i64 t, v] w fun e w' => e = .returned (.iface 71 (.pointer (some ⟨w.heap.size + 1, 0, none⟩))) ∧ ∃ (o : Obj) (tx : ByteArray), w' = ((w.alloc o).alloc (.cells #[.string tx] 73)).drew := by
  obtain ⟨sl, hblk⟩ := hC.blk
  have c2 : w.cell? ⟨c, 2, none⟩ = some (.int .u16 s.n) := cell_of_blk hblk
  have c4 : w.cell? ⟨c, 4, none⟩ = some (.int .i64 s.t) := cell_of_blk hblk
  have hpI : (0 : Int) < (s.n : Int) := by omega
  have hfI : ¬ (s.n : Int) = 65535 := by omega
  have hE := fun (o : Obj) (h0 h1) => errorf_two t s.t w.heap.size (w.alloc o) h0 h1
  unfold fmtT at hE
  go_enter Ybaf.func8, Ybaf.ntmps8
  go_wp2_with fail
  refine (hE _ (by simp [go_sem]) (by simp [go_sem])).mono ?_
  rintro e w1 ⟨rfl, tx, rfl⟩
  go_wp2
  go_ret
  exact ⟨by simp, _, tx, rfl⟩

theorem WAt.store {w : World} {c : Nat} {s s' : St} {bs : List Nat} {f h0 h1 N g cap : Nat} (h : WAt w c s bs f h0 h1 N g cap) (j : Nat) (u : Value) (hm : ∀ sl f, (ccells s sl f).setIfInBounds j u = ccells s' sl f) : WAt (w.setCell ⟨c, j, none⟩ u) c s' bs f h0 h1 N g cap :=
  ⟨by rw [blk_set h.blk, hm], own_other h.own (by simp [Value.ownBlock]; exact h.ne) _, h.len⟩
theorem WAt.put16 {w : World} {c : Nat} {s : St} {bs : List Nat} {f h0 h1 N g cap : Nat} (h : WAt w c s bs f h0 h1 N g cap) (a b : Nat) : WAt ((w.setCell ⟨g, 0, none⟩ (.int .u8 (a : Int))).setCell ⟨g, 1, none⟩ (.int .u8 (b : Int))) c s bs f a b N g cap := by
  refine ⟨(blk_other h.ne.symm _ _).trans ((blk_other h.ne.symm _ _).trans h.blk), ?_, h.len⟩
  have h2 := ((h.own.stored 0 (.int .u8 (a : Int))).1.stored 1 (.int .u8 (b : Int))).1
  rw [u8s_set, u8s_set] at h2
  exact h2
/-- The three last stores. -/
def stored3 (w : World) (c : Nat) (t : Int) (vb n : Nat) : World := ((w.setCell ⟨c, 4, none⟩ (.int .i64 t)).setCell ⟨c, 6, none⟩ (.int .u64 (vb : Int))).setCell ⟨c, 2, none⟩ (.int .u16 (n : Int))
theorem WAt.stored3 {w : World} {c : Nat} {s : St} {bs : List Nat} {f h0 h1 N g cap : Nat} (h : WAt w c s bs f h0 h1 N g cap) (t : Int) (vb n : Nat) : WAt (stored3 w c t vb n) c { s with t := t, v := vb, n := n } bs f h0 h1 N g cap :=
  ((h.store (s' := { s with t := t }) 4 _ (fun _ _ => rfl)).store (s' := { s with t := t, v := vb }) 6 _ (fun _ _ => rfl)).store (s' := { s with t := t, v := vb, n := n }) 2 _ (fun _ _ => rfl)
theorem be2 (n : Nat) (hn : n < 65536) (w : World) (g : Nat) : w.setCells g 0 (Lib.byteCells (Lib.beBytes 2 n)) = (w.setCell ⟨g, 0, none⟩ (.int .u8 ((n / 256 : Nat) : Int))).setCell ⟨g, 1, none⟩ (.int .u8 ((n % 256 : Nat) : Int)) := by
  have e : Lib.byteCells (Lib.beBytes 2 n) = [.int .u8 ((n / 256 : Nat) : Int), .int .u8 ((n % 256 : Nat) : Int)] := by
    have e1 : Lib.beBytes 2 n = [(n / 256 % 256).toUInt8, (n % 256).toUInt8] := rfl
    rw [e1]
    simp only [Lib.byteCells, List.map_cons, List.map_nil, Lib.toUInt8_mod]
    rw [Nat.mod_eq_of_lt (show n / 256 < 256 by omega)]
  rw [e]
  rfl
/-- binary.BigEndian.PutUint16 on the chunk's row. -/
theorem put16_walk (c n : Nat) (s : St) (bs : List Nat) (f h0 h1 N g cap : Nat) (w : World) (hW : WAt w c s bs f h0 h1 N g cap) (hn : n < 65536) :
    Calls Ybaf.prog 25 #[.agg #[], .slice (some ⟨g, 0, none⟩) N cap, .int .u16 n] w fun e w' => e = .returned (.tuple #[]) ∧ WAt w' c s bs f (n / 256) (n % 256) N g cap ∧ Step (wfoot c g) w (wfoot c g) w' := by
  have hN := hW.len
  have g0 : w.cell? ⟨g, 0, none⟩ = some (.int .u8 (h0 : Int)) := by rw [hW.own.cellAt 0 (by omega)]; rfl
  have g1 : w.cell? ⟨g, 0 + 1, none⟩ = some (.int .u8 (h1 : Int)) := by rw [hW.own.cellAt (0 + 1) (by omega)]; rfl
  refine (Ybaf.binary_BE_PutUint16 g 0 N cap n hn _ _ w (by omega) g0 g1 (hW.own.frozenAt _) (hW.own.frozenAt _)).mono ?_
  rintro e w' ⟨rfl, rfl⟩
  rw [be2 n hn]
  exact ⟨rfl, (hW.alloc _).put16 _ _, (((Step.refl _ w).alloc _).setCell (.inr rfl) _).setCell (.inr rfl) _⟩

theorem Step.aside {F F' : Nat → Prop} {a b c : World} {B : Nat} (h : Step F a F' b) (k : Step (fun k => k = B) b (fun k => k = B) c) (hB : a.heap.size ≤ B) : Step F a F' c :=
  ⟨k.os.trans h.os, k.tape.trans h.tape, k.output.trans h.output, Nat.le_trans h.size k.size, fun i hi hn => (k.block i (Nat.lt_of_lt_of_le hi h.size) (by omega)).trans (h.block i hi hn), h.foot⟩
theorem Step.stored3 {F F' : Nat → Prop} {a b : World} {c : Nat} (h : Step F a F' b) (hc : F' c) (t : Int) (vb n : Nat) : Step F a F' (stored3 b c t vb n) := ((h.setCell hc _).setCell hc _).setCell hc _
theorem tab_kept {w w' : World} {F F' : Nat → Prop} {tab : List Nat} (hT : TabAt 3 tab w) (hS : Step F w F' w') (h3 : ¬ F 3) : TabAt 3 tab w' := fun j hj => by
  have h := hT j hj
  exact (World.cell?_of_block (a := ⟨3, j, none⟩) (hS.block 3 (World.block_lt_of_cell? w ⟨3, j, none⟩ h) h3)).trans h

theorem buf_new (w : World) (cs : Array Value) (hs : cs.size = 10) (B : Nat) (hB : B = w.heap.size) : BufAt (w.alloc (.cells cs 57)) B [] := by
  subst hB
  exact ⟨cs, heap_alloc_new _ _, hs, fun i h => by cases h⟩
theorem BufAt.drew {w : World} {B : Nat} {l : List UInt8} (h : BufAt w B l) : BufAt w.drew B l := h
theorem BufAt.cell {w : World} {B : Nat} {l : List UInt8} (h : BufAt w B l) (i : Nat) (hi : i < l.length) : w.cell? ⟨B, i, none⟩ = some (.int .u8 (l[i].toNat : Nat)) := by
  obtain ⟨cs, h, _, h2⟩ := h
  rw [cell_of_blk h]
  exact h2 i hi
/-- The chunk while another block turns. -/
theorem CAt.apart {w w' : World} {c : Nat} {s : St} {h0 h1 g B : Nat} (h : CAt w c s h0 h1 g) (hS : Step (fun k => k = B) w (fun k => k = B) w') (hB : ∀ k, wfoot c g k → k ≠ B) : CAt w' c s h0 h1 g :=
  h.of_block fun k hk => hS.block k (h.lt k hk) (hB k hk)

set_option maxHeartbeats 2000000 in
theorem app_first (c vb : Nat) (t : Int) (s : St) (h0 h1 g : Nat) (w : World) (hC : CAt w c s h0 h1 g) (hO : s.Ok) (hn : s.n = 0) (hL : s.bs.length ≤ 800000000) (hvb : vb < 18446744073709551616) (ht0 : -9223372036854775808 ≤ t) (ht1 : t ≤ 9223372036854775807) :
    Calls Ybaf.prog 8 #[.pointer (some ⟨c, 0, none⟩), .int .i64 t, .float .f64 vb] w fun e w' => e = .returned .nilIface ∧ ∃ g', CAt w' c (s.next t vb) ((s.n + 1) / 256) ((s.n + 1) % 256) g' ∧ Step (wfoot c g) w (wfoot c g') w' := by
  have HL : Hid (s.bs.length ≤ 800000000) := hL
  have HV : Hid (vb < 18446744073709551616) := hvb
  have H0 : Hid (-9223372036854775808 ≤ t) := ht0
  have H1 : Hid (t ≤ 9223372036854775807) := ht1
  clear hL hvb ht0 ht1
  obtain ⟨sl, hblk⟩ := hC.blk
  have c2 : w.cell? ⟨c, 2, none⟩ = some (.int .u16 s.n) := cell_of_blk hblk
  have c3 : w.cell? ⟨c, 3, none⟩ = some (.int .i64 s.t0) := cell_of_blk hblk
  have c4 : w.cell? ⟨c, 4, none⟩ = some (.int .i64 s.t) := cell_of_blk hblk
  have f0 := frozen_of_blk hblk
  have h7 := call7 vb
  have hclt : c < w.heap.size := hC.lt c (.inl rfl)
  have hcn : ¬ c = w.heap.size := by omega
  have hC1 : CAt (w.setCell ⟨c, 3, none⟩ (.int .i64 t)) c { s with t0 := t } h0 h1 g := hC.store 3 _ rfl rfl (fun _ _ => rfl)
  have hO1 : St.Ok { s with t0 := t } := ⟨hO.bit, hO.opn, hO.v, hO.lead, hO.trail⟩
  have hBn : ∀ k, wfoot c g k → k ≠ w.heap.size := fun k hk => by have := hC.lt k hk; omega
  have hl10 : (Lib.uvarint (Lib.zigzag t)).length ≤ 10 := Lib.uvarint_length64 (zigzag_lt H0.out H1.out)
  go_enter Ybaf.func8, Ybaf.ntmps8
  go_wp2_with fail
  go_region_held3 (fun _ => True) (trivial)
    (first | (go_at_call 20; refine (varint_walk w.heap.size t _ H0.out H1.out (buf_new (w.setCell ⟨c, 3, none⟩ (.int .i64 t)) _ rfl w.heap.size (by simp)).drew).mono ?_; rintro e w2 ⟨rfl, hB2, hS2⟩; have hC2 := (hC1.alloc _).drew.apart hS2 hBn)
           | (go_at_call 19; refine (writes_walk c _ (Lib.uvarint (Lib.zigzag t)) w.heap.size 10 h0 h1 g _ hC2 hO1 hl10 (by have := HL.out; show s.bs.length ≤ _; omega) (fun i h => hB2.cell i h) hB2.lt (fun h => hBn _ h rfl)).mono ?_; rintro e w3 ⟨rfl, g3, hC3, hS3⟩))
  go_wp2_with fail
  refine (write_c c vb 64 _ h0 h1 g3 _ hC3 (St.Ok.putAll _ hO1) (by decide) (by decide) HV.out (by have := HL.out; rw [St.putAll_length]; show s.bs.length + _ ≤ _; omega)).mono ?_
  rintro e w4 ⟨rfl, g4, ⟨N4, cap4, hW4⟩, hS4⟩
  have hn4 : (St.put (St.putAll { s with t0 := t } (Lib.uvarint (Lib.zigzag t))) vb 64).n = 0 := (St.putAll_rest _ _).1.trans hn
  have m0 : w4.cell? ⟨c, 0, none⟩ = some (.slice (some ⟨g4, 0, none⟩) N4 cap4) := cell_of_blk hW4.blk
  have m2 : w4.cell? ⟨c, 2, none⟩ = some (.int .u16 0) := by rw [cell_of_blk hW4.blk]; show some (Value.int .u16 ((St.put _ vb 64).n : Int)) = _; rw [hn4]; rfl
  obtain ⟨y4, m4⟩ : ∃ y, w4.cell? ⟨c, 4, none⟩ = some y := ⟨_, cell_of_blk hW4.blk⟩
  obtain ⟨y6, m6⟩ : ∃ y, w4.cell? ⟨c, 6, none⟩ = some y := ⟨_, cell_of_blk hW4.blk⟩
  have mf := frozen_of_blk hW4.blk
  clear c2 c3 c4 f0
  go_wp2_with fail
  have hW5 := hW4.stored3 t vb 1
  have hS5 : Step (wfoot c g) w (wfoot c g4) (stored3 w4 c t vb 1) := Step.stored3 ((((((Step.refl (wfoot c g) w).setCell (.inl rfl) _).alloc _).drew.aside hS2 (Nat.le_refl _)).trans hS3).trans hS4) (.inl rfl) t vb 1
  have l0 : (stored3 w4 c t vb 1).cell? ⟨c, 0, none⟩ = some (.slice (some ⟨g4, 0, none⟩) N4 cap4) := cell_of_blk hW5.blk
  have l2 : (stored3 w4 c t vb 1).cell? ⟨c, 2, none⟩ = some (.int .u16 1) := cell_of_blk hW5.blk
  rw [show ((w4.setCell ⟨c, 4, none⟩ (.int .i64 t)).setCell ⟨c, 6, none⟩ (.int .u64 (vb : Int))).setCell ⟨c, 2, none⟩ (.int .u16 1) = stored3 w4 c t vb 1 from rfl]
  generalize stored3 w4 c t vb 1 = w5 at *
  clear m0 m2 m4 m6 mf
  go_region_held3 (fun w' => w'.cell? ⟨c, 0, none⟩ = some (.slice (some ⟨g4, 0, none⟩) N4 cap4) ∧ w'.cell? ⟨c, 2, none⟩ = some (.int .u16 1)) (go_keep)
    (first | (go_at_call 25; refine (put16_walk c 1 _ _ _ h0 h1 N4 g4 cap4 _ hW5.drew (by omega)).mono ?_; rintro e w6 ⟨rfl, hW6, hS6⟩; have p0 : w6.cell? ⟨c, 0, none⟩ = some (.slice (some ⟨g4, 0, none⟩) N4 cap4) := cell_of_blk hW6.blk; have p2 : w6.cell? ⟨c, 2, none⟩ = some (.int .u16 1) := cell_of_blk hW6.blk))
  go_wp2
  go_ret
  refine ⟨rfl, g4, ⟨N4, cap4, ?_⟩, hS5.drew.trans hS6⟩
  have e2 : s.next t vb = { s.first t vb with t := t, v := vb, n := s.n + 1 } := by unfold St.next; rw [if_neg (by omega), if_neg (by omega), if_pos hn]
  rw [e2, hn]
  exact hW6

end Go.Proofs.YbulkecpsFmt
