import Derived.Test.YbulkecpsFmtApp3
import Derived.Test.YbulkecpsFmtBytes
import Derived.Deep.CutBlock
namespace Go.Proofs.YbulkecpsFmt
open Go.ChangeShapes Go.WideShapes Go.ChangeAt Go.RowKit
set_option maxRecDepth 100000

/-- What the loop of the law holds. -/
structure Inv (w wr : World) (c m : Nat) (s : St) (bv : Value) (g : Nat) : Prop where
  ok : s.Ok
  n : s.n ≤ 65535
  mod : ModelAt wr m s bv
  chk : CAt wr c s (s.n / 256) (s.n % 256) g
  apart : ∀ k, footOf m bv k → ¬ wfoot c g k
  mnew : ∀ k, footOf m bv k → w.heap.size ≤ k
  cnew : ∀ k, wfoot c g k → w.heap.size ≤ k
  bel : Below w.heap.size w wr

theorem Inv.drewN {w wr : World} {c m : Nat} {s : St} {bv : Value} {g : Nat} (h : Inv w wr c m s bv g) (n : Nat) : Inv w (wr.drewN n) c m s bv g :=
  ⟨h.ok, h.n, h.mod.of_block fun _ _ => rfl, h.chk.of_block fun _ _ => rfl, h.apart, h.mnew, h.cnew, ⟨h.bel.os, h.bel.tape, h.bel.output, h.bel.size, h.bel.block⟩⟩
/-- Behind the model's step and the chunk's Append. -/
theorem Inv.next {w wr w2 w3 : World} {c m : Nat} {s s' : St} {bv bv' : Value} {g g' : Nat} (h : Inv w wr c m s bv g) (hO : s'.Ok) (hn : s'.n ≤ 65535) (hM : ModelAt w2 m s' bv') (hS : Step (footOf m bv) wr (footOf m bv') w2)
    (hC : CAt w3 c s' (s'.n / 256) (s'.n % 256) g') (hS2 : Step (wfoot c g) w2 (wfoot c g') w3) : Inv w w3 c m s' bv' g' where
  ok := hO
  n := hn
  mod := hM.of_block fun k hk => hS2.block k (hM.lt k hk) (fun hf => by
    rcases hS.foot k hk with h1 | h1
    · exact h.apart k h1 hf
    · have := h.chk.lt k hf; omega)
  chk := hC
  apart := fun k hk hf => by
    rcases hS2.foot k hf with h2 | h2
    · rcases hS.foot k hk with h1 | h1
      · exact h.apart k h1 h2
      · have := h.chk.lt k h2; omega
    · have := hM.lt k hk; omega
  mnew := fun k hk => by
    rcases hS.foot k hk with h1 | h1
    · exact h.mnew k h1
    · have := h.bel.size; omega
  cnew := fun k hk => by
    rcases hS2.foot k hk with h1 | h1
    · exact h.cnew k h1
    · have := h.bel.size; have := hS.size; omega
  bel := (h.bel.trans (hS.below h.bel.size h.mnew)).trans (hS2.below (Nat.le_trans h.bel.size hS.size) h.cnew)
theorem tab_below {w wr : World} {tab : List Nat} (hT : TabAt 3 tab w) (hB : Below w.heap.size w wr) : TabAt 3 tab wr := fun j hj => by
  have h := hT j hj
  exact (hB.cell (p := ⟨3, j, none⟩) (World.block_lt_of_cell? w ⟨3, j, none⟩ h)).trans h

theorem bytes_of_own {w : World} {g n cap : Nat} {l : List Nat} (h : w.ownsRow 0 5 1 (.slice (some ⟨g, 0, none⟩) n cap) n (u8s l)) : Bytes w.heap.size w (some ⟨g, 0, none⟩) n cap (fun i => (l[i]?).getD 0) := by
  refine .inr (.inr ⟨g, 0, rfl, (h.lt g rfl).2, fun i hi => ?_⟩)
  rw [Nat.zero_add, h.cellAt i (by omega), u8s_get]
  have hl : i < l.length := by have := h.1; rw [u8s_length] at this; omega
  simp [List.getElem?_eq_getElem hl]
theorem own_below {w w' : World} {g n cap B : Nat} {xs : List Value} (h : w.ownsRow 0 5 1 (.slice (some ⟨g, 0, none⟩) n cap) n xs) (hB : Below B w w') (hg : g < B) : w'.ownsRow 0 5 1 (.slice (some ⟨g, 0, none⟩) n cap) n xs := by
  refine ⟨h.1, ?_⟩
  rcases h.2 with hn | ⟨g', cap', cur, e, h0, hh, rest⟩
  · exact .inl hn
  · simp only [Value.slice.injEq, Option.some.injEq, Addr.mk.injEq, and_true, true_and] at e
    obtain ⟨rfl, rfl⟩ := e
    exact .inr ⟨g, cap, cur, rfl, h0, (hB.block g hg).trans hh, rest⟩

set_option maxHeartbeats 4000000 in
theorem law_walk (start : Int) (ga va : Option Addr) (gl gc vl vc : Nat) (G : Nat → Int) (V : Nat → Nat) (w : World) (x : Addr)
    (hx : w.cell? ⟨0, 0, none⟩ = some (.iface 71 (.pointer (some x)))) (hT : TabAt 3 Lib.deBruijn64tab w)
    (hxb : ∃ cb tb fr, w.heap[x.block]? = some (.cells cb tb fr) ∧ cb.size ≠ 0)
    (hG : 0 < gl → ∃ b off, ga = some ⟨b, off, none⟩ ∧ ∀ i, i < gl → w.cell? ⟨b, off + i, none⟩ = some (.int .i64 (G i)))
    (hV : 0 < vl → ∃ b off, va = some ⟨b, off, none⟩ ∧ ∀ i, i < vl → w.cell? ⟨b, off + i, none⟩ = some (.float .f64 (V i)) ∧ V i < 18446744073709551616)
    (hs0 : -9223372036854775808 ≤ start) (hs1 : start ≤ 9223372036854775807) :
    Calls Ybaf.prog 3 #[.int .i64 start, .slice ga gl gc, .slice va vl vc] w fun e w' => e = .returned (.bool true) ∧ Below w.heap.size w w' := by
  by_cases hbig : 70000 < gl
  · have hbI : (70000 : Int) < (gl : Int) := by omega
    clear hG hV hT
    go_enter Ybaf.func3, Ybaf.ntmps3
    go_wp2
    go_ret
    exact ⟨rfl, Below.refl _ _⟩
  have hg7 : gl ≤ 70000 := by omega
  have hgI : ¬ (70000 : Int) < (gl : Int) := by omega
  have H0 : Hid (-9223372036854775808 ≤ start) := hs0
  have H1 : Hid (start ≤ 9223372036854775807) := hs1
  clear hs0 hs1 hbig
  go_enter Ybaf.func3, Ybaf.ntmps3
  go_wp2_with fail
  refine (new_walk w).mono ?_
  rintro e w1 ⟨rfl, hC1, hB1⟩
  have hcl := hC1.lt _ (.inl rfl)
  have hgl1 := hC1.lt w.heap.size (.inr rfl)
  have inv0 : Inv w (w1.alloc (.cells (mcells St.init (.slice none 0 0)) 30)) (w.heap.size + 1) w1.heap.size St.init (.slice none 0 0) w.heap.size := by
    refine ⟨St.Ok.init, by decide, ⟨heap_alloc_new _ _, rfl, .inl ⟨rfl, rfl⟩⟩, hC1.alloc _, fun k hk hf => ?_, fun k hk => ?_, fun k hk => ?_, hB1.trans ((Below.refl _ _).alloc hB1.size _)⟩
    · rcases hk with h1 | h1
      · have := hC1.lt k hf; omega
      · cases h1
    · rcases hk with h1 | h1
      · have := hB1.size; omega
      · cases h1
    · rcases hk with h1 | h1 <;> omega
  obtain ⟨c, hc⟩ : ∃ c, c = w.heap.size + 1 := ⟨_, rfl⟩
  obtain ⟨m, hm⟩ : ∃ m, m = w1.heap.size := ⟨_, rfl⟩
  go_wp2_with fail
  rw [← hc, ← hm]
  rw [← hc, ← hm] at inv0
  clear hc hm hC1 hB1 hcl hgl1
  go_loopw [9, 10] (fun vt vi wr => ∃ (k : Nat) (T : Int) (s : St) (bv : Value) (g : Nat), vt = .int .i64 T ∧ vi = .int .i64 k ∧ k ≤ gl ∧ Hid (-9223372036854775808 ≤ T ∧ T ≤ 9223372036854775807) ∧ s.bs.length ≤ 200 * k ∧ Inv w wr c m s bv g) (fun _ vi _ => gl - (intOf vi).toNat)
  case atStart => exact ⟨0, start, St.init, .slice none 0 0, w.heap.size, rfl, rfl, Nat.zero_le _, ⟨H0.out, H1.out⟩, by decide, inv0⟩
  case round =>
    obtain ⟨k, T, s, bv, g, rfl, rfl, hk, HT2, hlen, inv⟩ := hrel
    by_cases hlt : k < gl
    · obtain ⟨b, off, rfl, hGc⟩ := hG (by omega)
      have hGk : wr.cell? ⟨b, off + k, none⟩ = some (.int .i64 (G k)) := (inv.bel.cell (p := ⟨b, off + k, none⟩) (World.block_lt_of_cell? w ⟨b, off + k, none⟩ (hGc k hlt))).trans (hGc k hlt)
      have hkI : (k : Int) < (gl : Int) := by omega
      obtain ⟨T2, hT2⟩ : ∃ T2 : Int, T2 = wrap64 (T + G k) := ⟨_, rfl⟩
      have HT3 : Hid (-9223372036854775808 ≤ T2 ∧ T2 ≤ 9223372036854775807) := by rw [hT2, w64']; exact ⟨by omega, by omega⟩
      have hTT : wrap64 (T + G k) = T2 := hT2.symm
      clear hT2 hGc
      go_upto_if 33 with fail
      rw [hTT]
      clear hTT
      go_cut [11] from 19 to 137 (fun vv wc => ∃ F : Nat, vv = .float .f64 F ∧ Hid (F < 18446744073709551616) ∧ ∃ nq, wc = wr.drewN nq)
      case first =>
        by_cases hv0 : 0 < vl
        · obtain ⟨b2, off2, rfl, hVc⟩ := hV hv0
          obtain ⟨j, hj⟩ : ∃ j : Nat, j = k % vl := ⟨_, rfl⟩
          have hjl : j < vl := by rw [hj]; exact Nat.mod_lt _ hv0
          have hVk : wr.cell? ⟨b2, off2 + j, none⟩ = some (.float .f64 (V j)) := (inv.bel.cell (p := ⟨b2, off2 + j, none⟩) (World.block_lt_of_cell? w ⟨b2, off2 + j, none⟩ (hVc j hjl).1)).trans (hVc j hjl).1
          have hjI : (j : Int) < (vl : Int) := by omega
          have hjm : (k : Int) % (vl : Int) = (j : Int) := by rw [hj]; exact (Int.natCast_emod k vl).symm
          have hvI : (0 : Int) < (vl : Int) := by omega
          have hvn : ¬ vl = 0 := by omega
          have hVb : Hid (V j < 18446744073709551616) := (hVc j hjl).2
          clear hj hVc hV
          go_wp2
          go_meet
          exact ⟨V j, rfl, hVb, 0, rfl⟩
        · have hvI : ¬ (0 : Int) < (vl : Int) := by omega
          go_wp2
          go_meet
          exact ⟨0, rfl, (by decide : 0 < 18446744073709551616), 0, rfl⟩
      case rest =>
        obtain ⟨F, rfl, HF, nq, rfl⟩ := hcut
        have h7 := call7 F
        have inv1 := inv.drewN nq
        have hl1 : s.bs.length ≤ 700000000 := by omega
        have hOn := inv.ok.next HF.out HT3.out.1 HT3.out.2 (s := s)
        go_wp2_with fail
        refine (step_walk m F T2 s bv _ inv1.mod inv1.ok HF.out HT3.out.1 HT3.out.2 inv1.n (by omega)).mono ?_
        rintro e w2 ⟨rfl, bv2, hM2, hS2⟩
        have hC2 : CAt w2 c s (s.n / 256) (s.n % 256) g := inv1.chk.of_block fun k hk => hS2.block k (inv1.chk.lt k hk) (fun hf => inv1.apart k hf hk)
        have hB2 : Below w.heap.size w w2 := inv1.bel.trans (hS2.below inv1.bel.size inv1.mnew)
        have h0l : 0 < w.heap.size := World.block_lt_of_cell? w ⟨0, 0, none⟩ hx
        have h3l : 3 < w.heap.size := World.block_lt_of_cell? w ⟨3, 0, none⟩ (hT 0 (by decide))
        have hx2 : w2.cell? ⟨0, 0, none⟩ = some (.iface 71 (.pointer (some x))) := (hB2.cell (p := ⟨0, 0, none⟩) h0l).trans hx
        go_wp2_with fail
        refine (app_walk c F T2 s g _ x hC2 inv1.ok inv1.n (by omega) HF.out HT3.out.1 HT3.out.2 (tab_below hT hB2) (fun hf => by have := inv1.cnew 3 hf; omega) hx2).mono ?_
        rintro e w3 ⟨ev, g3, rfl, hA, hC3, hS3⟩
        have hN3 : (s.next T2 F).n ≤ 65535 := by
          have := inv1.n
          unfold St.next
          split
          · exact this
          split
          · exact this
          · show s.n + 1 ≤ 65535
            omega
        have inv3 := inv1.next hOn.1 hN3 hM2 hS2 hC3 hS3
        generalize hs' : s.next T2 F = s' at *
        obtain ⟨kd, hkd⟩ : ∃ kd, kd = s.kind T2 := ⟨_, rfl⟩
        rw [← hkd] at hA ⊢
        have hx3 : w3.cell? ⟨0, 0, none⟩ = some (.iface 71 (.pointer (some x))) := (inv3.bel.cell (p := ⟨0, 0, none⟩) h0l).trans hx
        have hq := neq71
        have hd : ∀ nb, w2.heap.size ≤ nb → (∃ tx : ByteArray, w3.heap[nb]? = some (.cells #[.string tx] 73 (0, 0))) → (binOp .eql 35 (.iface 71 (.pointer (some ⟨nb, 0, none⟩))) (.iface 71 (.pointer (some x)))).run Ybaf.prog w3 = .ok (.bool false) w3 := by
          intro nb hnb ⟨tx, hnx⟩
          obtain ⟨cb, tb, fr, hxb, hsz⟩ := hxb
          have hxl : x.block < w.heap.size := (Array.getElem?_eq_some_iff.1 hxb).1
          exact diff71 w3 (a := ⟨nb, 0, none⟩) (b := x) (by have := hB2.size; show nb ≠ x.block; omega) hnx ((inv3.bel.block x.block hxl).trans hxb) hsz
        obtain ⟨N3, cap3, hW3⟩ := inv3.chk
        have a0 : w3.cell? ⟨c, 0, none⟩ = some (.slice (some ⟨g3, 0, none⟩) N3 cap3) := cell_of_blk hW3.blk
        have a1 : w3.cell? ⟨c, 1, none⟩ = some (.int .i64 s'.free) := cell_of_blk hW3.blk
        have a2 : w3.cell? ⟨c, 2, none⟩ = some (.int .u16 s'.n) := cell_of_blk hW3.blk
        have a3 : w3.cell? ⟨c, 3, none⟩ = some (.int .i64 s'.t0) := cell_of_blk hW3.blk
        have a4 : w3.cell? ⟨c, 4, none⟩ = some (.int .i64 s'.t) := cell_of_blk hW3.blk
        have a5 : w3.cell? ⟨c, 5, none⟩ = some (.int .i64 s'.td) := cell_of_blk hW3.blk
        have a6 : w3.cell? ⟨c, 6, none⟩ = some (.int .u64 s'.v) := cell_of_blk hW3.blk
        have a7 : w3.cell? ⟨c, 7, none⟩ = some (.int .i64 s'.lead) := cell_of_blk hW3.blk
        have a8 : w3.cell? ⟨c, 8, none⟩ = some (.int .i64 s'.trail) := cell_of_blk hW3.blk
        have a9 : w3.cell? ⟨c, 9, none⟩ = some (.bool s'.set) := cell_of_blk hW3.blk
        have b2 : w3.cell? ⟨m, 2, none⟩ = some (.int .u16 s'.n) := cell_of_blk inv3.mod.blk
        have b3 : w3.cell? ⟨m, 3, none⟩ = some (.int .i64 s'.t0) := cell_of_blk inv3.mod.blk
        have b4 : w3.cell? ⟨m, 4, none⟩ = some (.int .i64 s'.t) := cell_of_blk inv3.mod.blk
        have b5 : w3.cell? ⟨m, 5, none⟩ = some (.int .i64 s'.td) := cell_of_blk inv3.mod.blk
        have b6 : w3.cell? ⟨m, 6, none⟩ = some (.int .u64 s'.v) := cell_of_blk inv3.mod.blk
        have b7 : w3.cell? ⟨m, 7, none⟩ = some (.int .i64 s'.lead) := cell_of_blk inv3.mod.blk
        have b8 : w3.cell? ⟨m, 8, none⟩ = some (.int .i64 s'.trail) := cell_of_blk inv3.mod.blk
        have b9 : w3.cell? ⟨m, 9, none⟩ = some (.bool s'.set) := cell_of_blk inv3.mod.blk
        have HN3 : Hid (N3 = 2 + (s'.bs.length + s'.free) / 8) := hW3.len
        have hl3 : s'.bs.length ≤ 200 * (k + 1) := by have := hOn.2; omega
        have HL3 : Hid (s'.bs.length ≤ 200 * (k + 1)) := hl3
        have hbl : ∀ wx, ModelAt wx m s' bv2 → Calls Ybaf.prog 9 #[.pointer (some ⟨m, 0, none⟩)] wx fun e w' => e = .returned (.int .i64 (N3 : Int)) ∧ w' = wx := fun wx h => by
          rw [HN3.out]
          exact blen_walk m s' bv2 wx h hOn.1 (by omega)
        have hfr : ∀ wx, ModelAt wx m s' bv2 → Calls Ybaf.prog 10 #[.pointer (some ⟨m, 0, none⟩)] wx fun e w' => e = .returned (.int .i64 (s'.free : Int)) ∧ w' = wx := fun wx h => free_walk m s' bv2 wx h (by omega)
        have hb3 : ∀ a n, Calls Ybaf.prog 9 #[.pointer (some ⟨m, 0, none⟩)] (w3.drewN (a + n)) fun e w' => e = .returned (.int .i64 (N3 : Int)) ∧ ∃ n', w' = w3.drewN (a + n') := fun a n => (hbl (w3.drewN (a + n)) (inv3.mod.of_block fun _ _ => rfl)).mono fun _ _ ⟨he, hw⟩ => ⟨he, n, hw⟩
        have hf3 : ∀ a n, Calls Ybaf.prog 10 #[.pointer (some ⟨m, 0, none⟩)] (w3.drewN (a + n)) fun e w' => e = .returned (.int .i64 (s'.free : Int)) ∧ ∃ n', w' = w3.drewN (a + n') := fun a n => (hfr (w3.drewN (a + n)) (inv3.mod.of_block fun _ _ => rfl)).mono fun _ _ ⟨he, hw⟩ => ⟨he, n, hw⟩
        clear hl3 hbl hfr
        rcases hA with ⟨hk0, rfl⟩ | ⟨hk0, rfl⟩ | ⟨hk0, nb, hnb, rfl, hnx⟩
        · rw [hk0]
          clear hd hq
          go_wp2_with fail
          go_quiet (fail)
          go_wp2_with fail
          go_quiet (fail)
          go_wp2_with fail
          go_quiet ((first | (go_at_call 9; exact hb3 _ _) | (go_at_call 10; exact hf3 _ _)))
          go_wp2
          go_roundw
          case rel => exact ⟨k + 1, T2, s', bv2, g3, rfl, by go_num, by omega, HT3, HL3, inv3.drewN _⟩
          case measure => simp [intOf]; omega
        · rw [hk0]
          clear hd
          go_wp2_with fail
          go_quiet (fail)
          go_wp2_with fail
          go_quiet (fail)
          go_wp2_with fail
          go_quiet ((first | (go_at_call 9; exact hb3 _ _) | (go_at_call 10; exact hf3 _ _)))
          go_wp2
          go_roundw
          case rel => exact ⟨k + 1, T2, s', bv2, g3, rfl, by go_num, by omega, HT3, HL3, inv3.drewN _⟩
          case measure => simp [intOf]; omega
        · rw [hk0]
          have hd' := hd nb hnb hnx
          clear hd hq
          go_wp2_with fail
          go_quiet (fail)
          go_wp2_with fail
          go_quiet (fail)
          go_wp2_with fail
          go_quiet ((first | (go_at_call 9; exact hb3 _ _) | (go_at_call 10; exact hf3 _ _)))
          go_wp2
          go_roundw
          case rel => exact ⟨k + 1, T2, s', bv2, g3, rfl, by go_num, by omega, HT3, HL3, inv3.drewN _⟩
          case measure => simp [intOf]; omega
    · have hk2 : ¬ (k : Int) < (gl : Int) := by omega
      have hl1 : s.bs.length ≤ 700000000 := by omega
      obtain ⟨N, cap, hW⟩ := inv.chk
      have hN := hW.len
      have hbw := bytes_walk m s bv wr.drew inv.mod.drew inv.ok inv.n (by omega)
      rw [← hN] at hbw
      have c0 : wr.cell? ⟨c, 0, none⟩ = some (.slice (some ⟨g, 0, none⟩) N cap) := cell_of_blk hW.blk
      have hclt : c < wr.heap.size := hW.lt c (.inl rfl)
      have hglt : g < wr.heap.size := hW.lt g (.inr rfl)
      have HN9 : Hid (N ≤ 140737488351232) := by have h : N ≤ 140737488351232 := by { have : s.free ≤ 8 := freeOf_le _ _; omega }; exact h
      clear hN hl1
      go_wp2_with fail
      go_region_held3 (fun w' => w'.cell? ⟨c, 0, none⟩ = some (.slice (some ⟨g, 0, none⟩) N cap)) (go_keep)
        (first | (go_at_call 12; refine hbw.mono ?_; rintro e w2 ⟨rfl, hB2, hs2, hown2⟩; have p0 : w2.cell? ⟨c, 0, none⟩ = some (.slice (some ⟨g, 0, none⟩) N cap) := (hB2.cell (p := ⟨c, 0, none⟩) hclt).trans c0; have hy1 := bytes_of_own (own_below hW.drew.own hB2 hglt); have hy2 := bytes_of_own hown2)
               | (go_at_call 11; refine (equal_any _ _ N cap N _ w2 HN9.out hy1 hy2).mono ?_; rintro e w3 ⟨rfl, nq, rfl⟩))
      go_wp2
      go_ret
      exact ⟨rfl, below_drewN (inv.bel.drew.trans (hB2.mono inv.bel.size)) _⟩
end Go.Proofs.YbulkecpsFmt
