import Derived.Test.YbulkecpsFmtPush
namespace Go.Proofs.YbulkecpsFmt
open Go.ChangeShapes Go.WideShapes Go.ChangeAt Go.RowKit
set_option maxRecDepth 100000

set_option maxHeartbeats 4000000 in
theorem write_walk (c v n : Nat) (s : St) (h0 h1 N g cap : Nat) (w : World) (hW : WAt w c s s.bs s.free h0 h1 N g cap) (hO : s.Ok) (hn : 0 < n) (hn2 : n ≤ 64) (hv : v < 18446744073709551616) (hL : s.bs.length ≤ 900000000) :
    Calls Ybaf.prog 21 #[.pointer (some ⟨c, 0, none⟩), .int .u64 v, .int .i64 n] w fun e w' => e = .returned (.tuple #[]) ∧ ∃ N' g' cap', WAt w' c (s.put v n) (s.put v n).bs (s.put v n).free h0 h1 N' g' cap' ∧ Step (wfoot c g) w (wfoot c g') w' := by
  have hmf : ∀ (fn : Fn) (first cap : Array Value) (w : World), (Instr.makeFunc fn first cap).run Ybaf.prog w = .ok (.func fn first cap) w := fun _ _ _ _ => rfl
  have HV : Hid (v < 18446744073709551616) := hv
  clear hv
  obtain ⟨i0, hi, hz0, hz1, hz2⟩ := info_parts info5
  obtain ⟨ob, hob⟩ : ∃ ob : Bool, ((n : Int) % 8 == 0) = ob := ⟨_, rfl⟩
  go_enter_defers Ybaf.func21, Ybaf.ntmps21
  go_wp2
  go_loopw [2] (fun vn wr => ∃ (j f N' g' cap' : Nat) (r : List Nat), vn = .int .i64 j ∧ j ≤ n ∧ (j = n ∨ f ≤ 7) ∧ f ≤ 8 ∧ (r.length + f) % 8 = 0 ∧ r ++ bitsOf v j = s.bs ++ bitsOf v n ∧ (∀ b ∈ r, b ≤ 1) ∧ WAt wr c s r f h0 h1 N' g' cap' ∧
      wr.heap[w.heap.size]? = some (.cells #[.pointer (some ⟨c, 0, none⟩)] 69 (0, 0)) ∧ wr.heap[w.heap.size + 1]? = some (.cells #[.bool ob] 4 (0, 0)) ∧ Step (wfoot c g) w (wfoot c g') wr) (fun vn _ => (intOf vn).toNat)
  case atStart =>
    refine ⟨n, s.free, N, g, cap, s.bs, rfl, Nat.le_refl _, .inl rfl, freeOf_le _ _, freeOf_al _ _ hO.opn, rfl, hO.bit, (hW.alloc _).alloc _, ?_, ?_, ((Step.refl _ _).alloc _).alloc _⟩
    · rw [Below.heap_alloc _ _ _ (by simp)]
      exact heap_alloc_new _ _
    · have := heap_alloc_new (w.alloc (.cells #[.pointer (some ⟨c, 0, none⟩)] 69)) (.cells #[.bool ob] 4)
      simpa using this
  case round =>
    obtain ⟨j, f, N', g', cap', r, rfl, hj, hjf, hf8, hal, hr, hbit, hWr, q0, q1, hS⟩ := hrel
    have c0 : wr.cell? ⟨c, 0, none⟩ = some (.slice (some ⟨g', 0, none⟩) N' cap') := cell_of_blk hWr.blk
    have c1 : wr.cell? ⟨c, 1, none⟩ = some (.int .i64 f) := cell_of_blk hWr.blk
    have f0 := frozen_of_blk hWr.blk
    have p0 : wr.cell? ⟨w.heap.size, 0, none⟩ = some (.pointer (some ⟨c, 0, none⟩)) := cell_of_blk q0
    have p1 : wr.cell? ⟨w.heap.size + 1, 0, none⟩ = some (.bool ob) := cell_of_blk q1
    by_cases hj0 : j = 0
    · subst hj0
      have hr' : r = s.bs ++ bitsOf v n := by simpa [bitsOf] using hr
      have hf7 : f ≤ 7 := by omega
      have hrl : r.length = s.bs.length + n := by rw [hr', List.length_append, bitsOf_length]
      have hal' : (s.bs.length + n + f) % 8 = 0 := by rw [← hrl]; exact hal
      have hob' : ob = decide (n % 8 = 0) := by rw [← hob]; exact eq8 n
      have hqg := hWr.row_ne q0 (by decide)
      have hqc := hWr.box_ne q0 (by decide)
      have hbd := hWr.bound hr hf8 hn2 hL
      go_wp2
      refine leaves_cons (f := 28) (args := #[.pointer (some ⟨w.heap.size + 1, 0, none⟩), .pointer (some ⟨w.heap.size, 0, none⟩)]) (by simp) (by simp [go_sem]) ?_
      by_cases hop : ob = true ∧ f = 0
      · obtain ⟨ho, hf⟩ := hop
        subst hf
        subst ho
        refine (close_opens c (w.heap.size + 1) w.heap.size s r h0 h1 N' g' cap' .returning _ p1 p0 hqg hqc hWr (by omega) (by omega)).mono ?_
        rintro e u' w2 ⟨rfl, rfl, N2, g2, cap2, hW2, hS2⟩
        refine ⟨_, results_none rfl _ _ _, rfl, N2, g2, cap2, hW2.put_done hr' ?_, hS.trans hS2⟩
        have h8 : n % 8 = 0 := by simpa using hob'
        have h9 : (s.bs.length + n) % 8 = 0 := by omega
        simp [freeOf, openOf, h8, h9]
      · refine (close_idle c (w.heap.size + 1) w.heap.size f ob .returning _ p1 p0 c1 (by cases ob <;> simp_all)).mono ?_
        rintro e u' w2 ⟨rfl, rfl, rfl⟩
        refine ⟨_, results_none rfl _ _ _, rfl, N', g', cap', hWr.put_done hr' ?_, hS⟩
        have h9 : openOf n (s.bs.length + n) = false := by
          unfold openOf
          rw [← hob']
          cases ob with
          | false => rfl
          | true =>
            have hf : ¬ f = 0 := fun e => hop ⟨rfl, e⟩
            simp
            omega
        rw [h9]
        exact freeOf_shut hal' hf7
    · have hbd := hWr.bound hr hf8 hn2 hL
      go_upto_if 23 with fail
      go_cut [] from 17 to 84 (fun wc => ∃ (F N1 g1 cap1 : Nat), 0 < F ∧ F ≤ 8 ∧ (r.length + F) % 8 = 0 ∧ WAt wc c s r F h0 h1 N1 g1 cap1 ∧
        wc.heap[w.heap.size]? = some (.cells #[.pointer (some ⟨c, 0, none⟩)] 69 (0, 0)) ∧ wc.heap[w.heap.size + 1]? = some (.cells #[.bool ob] 4 (0, 0)) ∧ Step (wfoot c g) w (wfoot c g1) wc)
      case first =>
        by_cases hf : f = 0
        · subst hf
          have hqlt : w.heap.size < wr.heap.size := World.block_lt_of_cell? wr ⟨w.heap.size, 0, none⟩ p0
          have hqlt1 : w.heap.size + 1 < wr.heap.size := World.block_lt_of_cell? wr ⟨w.heap.size + 1, 0, none⟩ p1
          have hqg := hWr.row_ne q0 (by decide)
          have hqc := hWr.box_ne q0 (by decide)
          have hqg1 := hWr.row_ne q1 (by decide)
          have hqc1 := hWr.box_ne q1 (by decide)
          have hclt : c < wr.heap.size := hWr.lt c (.inl rfl)
          have hcn : ¬ c = wr.heap.size := by omega
          have hqn : ¬ w.heap.size = wr.heap.size := by omega
          have z1 : decide (0 < j) = true := decide_eq_true (by omega)
          have z2 : ((0 : Nat) : Int) = 0 := rfl
          have z3 : ((0 : Int) == 0) = true := rfl
          go_wp2
          refine region_cut (fun a a' w' => ∃ (g2 cap2 : Nat) (w1 : World), a' = ((((((((a.put (some 24) (.pointer (some ⟨c, 0, none⟩))).put (some 25) (.pointer (some ⟨c, 0, none⟩))).put (some 26) (.pointer (some ⟨c, 0, none⟩))).put (some 27) (.pointer (some ⟨c, 0, none⟩))).put (some 28) (.slice (some ⟨g', 0, none⟩) N' cap')).put (some 29) (.slice (some ⟨wr.heap.size, 0, none⟩) 1 1)).put (some 30) (.slice (some ⟨g2, 0, none⟩) (N' + 1) cap2)).put (some 31) (.pointer (some ⟨c, 0, none⟩))).put (some 32) (.pointer (some ⟨c, 0, none⟩)) ∧
            Grew wr w1 N' g' cap' (u8s (enc h0 h1 r 0)) g2 cap2 ∧ w' = w1.setCell ⟨c, 0, none⟩ (.slice (some ⟨g2, 0, none⟩) (N' + 1) cap2)) ?_ ?_
          · go_region_law (refine step_append_lies _ rfl _ _ 26 rfl 0 5 i0 (.int .u8 0) 1 1 Ybaf.underlying26 hi hz0 hz1 hz2 rfl (by decide) (.slice (some ⟨g', 0, none⟩) N' cap') N' (u8s (enc h0 h1 r 0)) (by simp [Act.eval]) (by first | exact (hWr.alloc _).drew.own | exact (hWr.alloc _).own) ⟨wr.heap.size, 0, none⟩ 1 1 [Value.int .u8 0] (by simp [Act.eval]) rfl (by exact cell_one_new _ _ _) (by intro u hu; simp at hu; subst hu; rfl) (by decide) (by unfold maxLen; omega) (by omega) (Nat.zero_le _) _ rfl ?_; intro g2 cap2 w1 hown1 hgrow hat hlt; have hG : Grew wr w1 N' g' cap' (u8s (enc h0 h1 r 0)) g2 cap2 := grew_of hown1 hgrow hat (by simp); have k1 : w1.cell? ⟨w.heap.size, 0, none⟩ = some (.pointer (some ⟨c, 0, none⟩)) := (World.cell?_of_block (a := ⟨w.heap.size, 0, none⟩) (hG.step.block w.heap.size hqlt hqg)).trans p0; have hblk := (hG.step.block c hclt (fun e => hWr.ne e.symm)).trans hWr.blk; have k2 : w1.cell? ⟨c, 0, none⟩ = some (.slice (some ⟨g', 0, none⟩) N' cap') := cell_of_blk hblk; have k3 := frozen_of_blk hblk; clear hblk hgrow hat hown1)
            all_goals (refine ⟨_, _, _, ?_, hG, rfl⟩; simp only [Act.put, List.setIfInBounds_toArray, List.set_cons_zero, List.set_cons_succ, z1, z2, z3])
          · rintro a' w' ⟨g2, cap2, w1, rfl, hG, rfl⟩
            have hblk := (hG.step.block c hclt (fun e => hWr.ne e.symm)).trans hWr.blk
            have e1 : (w1.setCell ⟨c, 0, none⟩ (.slice (some ⟨g2, 0, none⟩) (N' + 1) cap2)).cell? ⟨c, 1, none⟩ = some (.int .i64 0) := cell_of_blk (blk_set hblk 0 _)
            have e2 : ∀ j, (w1.setCell ⟨c, 0, none⟩ (.slice (some ⟨g2, 0, none⟩) (N' + 1) cap2)).frozen? ⟨c, j, none⟩ = false := frozen_of_blk (blk_set hblk 0 _)
            have e3 : (w1.setCell ⟨c, 0, none⟩ (.slice (some ⟨g2, 0, none⟩) (N' + 1) cap2)).cell? ⟨w.heap.size, 0, none⟩ = some (.pointer (some ⟨c, 0, none⟩)) := (World.cell?_of_block (a := ⟨w.heap.size, 0, none⟩) ((Below.heap_setCell _ _ _ _ hqc).trans (hG.step.block w.heap.size hqlt hqg))).trans p0
            have hg2c : g2 ≠ c := by
              intro e
              subst e
              rcases hG.step.foot g2 rfl with h | h
              · exact hWr.ne h.symm
              · omega
            simp only [Act.put, List.setIfInBounds_toArray, List.set_cons_zero, List.set_cons_succ]
            clear c0 c1 f0 p0 p1
            go_wp2
            go_meet
            refine ⟨8, N' + 1, g2, cap2, by decide, by decide, by omega, ⟨(blk_set (blk_set hblk 0 _) 1 _).trans rfl, ?_, by have := hWr.len; omega⟩, ?_, ?_, ?_⟩
            · rw [enc_open h0 h1 r (by omega), u8s_append]
              exact own_other (own_other hG.own (by simp [Value.ownBlock]; exact hg2c) _) (by simp [Value.ownBlock]; exact hg2c) _
            · rw [blk_other hqc, blk_other hqc, hG.step.block w.heap.size hqlt hqg]; exact q0
            · rw [blk_other hqc1, blk_other hqc1, hG.step.block (w.heap.size + 1) hqlt1 hqg1]; exact q1
            · refine Step.setCell (Step.setCell (F' := wfoot c g2) ?_ (.inl rfl) _) (.inl rfl) _
              refine hS.trans ⟨hG.step.os, hG.step.tape, hG.step.output, hG.step.size, fun k hk hn => hG.step.block k hk (fun e => hn (.inr e)), fun k hk => ?_⟩
              rcases hk with h | h
              · exact .inl (.inl h)
              · rcases hG.step.foot k h with h' | h'
                · exact .inl (.inr h')
                · exact .inr h'
        · go_wp2
          go_meet
          exact ⟨f, N', g', cap', by omega, hf8, hal, hWr, q0, q1, hS⟩
      case rest =>
        clear c0 c1 f0 p0 p1 hWr q0 q1 hS hbd
        obtain ⟨F, N1, g1, cap1, hF0, hF8, hFal, hWc, t0, t1, hSc⟩ := hcut
        have hbd := hWc.bound hr hF8 hn2 hL
        have c0 : wc.cell? ⟨c, 0, none⟩ = some (.slice (some ⟨g1, 0, none⟩) N1 cap1) := cell_of_blk hWc.blk
        have c1 : wc.cell? ⟨c, 1, none⟩ = some (.int .i64 F) := cell_of_blk hWc.blk
        have f0 := frozen_of_blk hWc.blk
        have p0 : wc.cell? ⟨w.heap.size, 0, none⟩ = some (.pointer (some ⟨c, 0, none⟩)) := cell_of_blk t0
        obtain ⟨k, hk⟩ : ∃ k : Nat, k = min F j := ⟨_, rfl⟩
        have hmin : min (F : Int) (j : Int) = (k : Int) := by omega
        obtain ⟨i, hij⟩ : ∃ i : Nat, j = i + k := ⟨j - k, by omega⟩
        obtain ⟨e, he⟩ : ∃ e : Nat, F = e + k := ⟨F - k, by omega⟩
        have hjk : (j : Int) - (k : Int) = (i : Int) := by omega
        have hfk : (F : Int) - (k : Int) = (e : Int) := by omega
        have hk0 : 0 < k := by omega
        have hk8 : k ≤ 8 := by omega
        have hi64 : i < 64 := by omega
        have hi64' : (i : Int) < 64 := by omega
        have he8 : e < 8 := by omega
        have he64 : (e : Int) < 64 := by omega
        have HK : Hid (k = min F j) := hk
        have HI : Hid (j = i + k) := hij
        have HE : Hid (F = e + k) := he
        clear hk hij he
        obtain ⟨M, hM⟩ : ∃ M : Nat, N1 = M + 1 := ⟨N1 - 1, by have := hWc.len; omega⟩
        have hNM : (N1 : Int) - 1 = (M : Int) := by omega
        have hMN : (M : Int) < (N1 : Int) := by omega
        have hM9 : M ≤ 1000000000 := by omega
        have he9 : e ≤ 1000000000 := by omega
        have HwM := (⟨hM9, he9⟩ : Hid9 M e)
        clear hM9 he9
        obtain ⟨B, hB⟩ : ∃ B : Nat, B = byteAt r (r.length / 8) := ⟨_, rfl⟩
        have lM : wc.cell? ⟨g1, M, none⟩ = some (.int .u8 (B : Int)) := by rw [hB]; exact hWc.last hM hF0 hF8 hFal
        have fM := hWc.own.frozenAt
        have HB8 : Hid (B < 256) := by rw [hB]; exact byteAt_lt r hbit _
        obtain ⟨x, hx⟩ : ∃ x : Nat, x = v / 2 ^ i % 2 ^ k := ⟨_, rfl⟩
        have hx256 : bits BinOp.and IntKind.u64 ((v : Int) / 2 ^ i) (IntKind.u64.wrap (IntKind.u64.wrap (2 ^ k) - 1)) % 256 = (x : Int) := by rw [hx]; exact mask_eq v i k HV.out hk8
        have hxk : x < 2 ^ k := by rw [hx]; exact Nat.mod_lt _ (Nat.two_pow_pos k)
        have HXK : Hid (x < 2 ^ k) := hxk
        obtain ⟨Y, hY⟩ : ∃ Y : Nat, Y = B ||| x * 2 ^ e := ⟨_, rfl⟩
        have hYe : bits BinOp.or IntKind.u8 (B : Int) ((x : Int) * 2 ^ min e 8 % 256) = (Y : Int) := by rw [hY]; exact or_eq B x e k HB8.out hxk he8 (by have := HE.out; omega)
        have HY : Hid (Y = B ||| x * 2 ^ e) := hY
        clear hxk hY
        have hqg : ¬ w.heap.size = g1 := hWc.row_ne t0 (by decide)
        have hcg : ¬ c = g1 := fun e => hWc.ne e.symm
        have HM : Hid (N1 = M + 1) := hM
        have HB : Hid (B = byteAt r (r.length / 8)) := hB
        have HX : Hid (x = v / 2 ^ i % 2 ^ k) := hx
        clear hM hB hx
        go_wp2
        go_quiet (fail)
        go_wp2
        generalize hwq : wc.drewN nq = wq
        have d0 : wq.cell? ⟨c, 0, none⟩ = some (.slice (some ⟨g1, 0, none⟩) N1 cap1) := by rw [← hwq]; exact c0
        have d1 : wq.cell? ⟨c, 1, none⟩ = some (.int .i64 F) := by rw [← hwq]; exact c1
        have d2 : ∀ j, wq.frozen? ⟨c, j, none⟩ = false := by rw [← hwq]; exact f0
        have d3 : wq.cell? ⟨w.heap.size, 0, none⟩ = some (.pointer (some ⟨c, 0, none⟩)) := by rw [← hwq]; exact p0
        have d4 : wq.cell? ⟨g1, M, none⟩ = some (.int .u8 (B : Int)) := by rw [← hwq]; exact lM
        have d5 : ∀ j, wq.frozen? ⟨g1, j, none⟩ = false := by rw [← hwq]; exact fM
        clear c0 c1 f0 p0 lM fM
        have hwM : wrap64 (M : Int) = (M : Int) := wrap64_nat M HwM.m
        have hwe : wrap64 (e : Int) = (e : Int) := wrap64_nat e HwM.e
        have hwM' : IntKind.i64.wrap (M : Int) = (M : Int) := i64_nat M HwM.m
        have hwe' : IntKind.i64.wrap (e : Int) = (e : Int) := i64_nat e HwM.e
        refine region_tail 21 mixed (by kernel_rfl) ?_
        simp only [List.take_succ_cons, List.take_zero, List.drop_succ_cons, List.drop_zero]
        repeat still_step
        refine wpStill_nil ?_
        clear hwM hwe hwM' hwe'
        go_wp2
        go_roundw
        case rel =>
          clear hx256 hYe hmin hmf
          have hij := HI.out
          have he := HE.out
          subst hwq
          have hP := (hWc.drewN nq).push HM.out hF0 hF8 hFal he HXK.out
          rw [← HB.out, ← HY.out] at hP
          refine ⟨i, e, N1, g1, cap1, r ++ bitsOf x k, rfl, by omega, .inr (by omega), by omega, ?_, ?_, ?_, hP.drew, ?_, ?_, (((hSc.drewN nq).setCell (.inr rfl) _).setCell (.inl rfl) _).drew⟩
          · rw [List.length_append, bitsOf_length, show r.length + k + e = r.length + F by omega]; exact hFal
          · rw [← hr, List.append_assoc, show bitsOf v j = bitsOf x k ++ bitsOf v i from by rw [hij, Nat.add_comm i k, bitsOf_add, HX.out, bitsOf_mod _ _ _ (Nat.le_refl _)]]
          · intro b hb
            rcases List.mem_append.1 hb with hb | hb
            · exact hbit b hb
            · exact bitsOf_le _ _ b hb
          · exact (blk_other (hWc.box_ne t0 (by decide)) _ _).trans ((blk_other hqg _ _).trans t0)
          · exact (blk_other (hWc.box_ne t1 (by decide)) _ _).trans ((blk_other (hWc.row_ne t1 (by decide)) _ _).trans t1)
        case measure =>
          clear hx256 hYe hmin hmf
          have := HI.out
          simp [intOf]
          omega
end Go.Proofs.YbulkecpsFmt
