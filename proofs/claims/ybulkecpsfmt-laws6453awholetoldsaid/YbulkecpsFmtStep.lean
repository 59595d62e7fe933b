import Derived.Test.YbulkecpsFmtDod
import Derived.Test.YbulkecpsFmtValue
import Derived.Test.YbulkecpsFmtSmall
namespace Go.Proofs.YbulkecpsFmt
open Go.ChangeShapes Go.WideShapes Go.ChangeAt Go.RowKit
set_option maxRecDepth 100000

theorem ModelAt.store {w : World} {m : Nat} {s s' : St} {bv : Value} (h : ModelAt w m s bv) (j : Nat) (u : Value) (hb : s'.bs = s.bs) (hm : (mcells s bv).setIfInBounds j u = mcells s' bv) : ModelAt (w.setCell ⟨m, j, none⟩ u) m s' bv :=
  ⟨by rw [blk_set h.blk, hm], by rw [hb]; exact own_other h.own h.ne _⟩

theorem xor_ones (a : Nat) (h : a < 18446744073709551616) : a ^^^ 18446744073709551615 = 18446744073709551615 - a := by
  have h1 : (BitVec.ofNat 64 a ^^^ BitVec.allOnes 64).toNat = a ^^^ 18446744073709551615 := by
    rw [BitVec.toNat_xor, BitVec.toNat_allOnes, BitVec.toNat_ofNat, Nat.mod_eq_of_lt (show a < 2 ^ 64 from h)]
  rw [← h1, BitVec.xor_allOnes, BitVec.toNat_not, BitVec.toNat_ofNat, Nat.mod_eq_of_lt (show a < 2 ^ 64 from h)]
theorem zig_eq (t : Int) (h0 : -9223372036854775808 ≤ t) (h1 : t ≤ 9223372036854775807) :
    bits BinOp.xor IntKind.u64 (IntKind.u64.wrap (IntKind.u64.wrap t * 2)) (IntKind.u64.wrap (t / 9223372036854775808)) = ((Lib.zigzag t : Nat) : Int) := by
  rw [IntKind.wrap_u64, IntKind.wrap_u64, IntKind.wrap_u64]
  have ha : (t % 18446744073709551616 * 2 % 18446744073709551616) = ((u64 (2 * t) : Nat) : Int) := by unfold u64; omega
  rw [ha]
  by_cases h : 0 ≤ t
  · rw [show t / 9223372036854775808 % 18446744073709551616 = ((0 : Nat) : Int) by omega, bits_xor_nat _ 0 (u64_lt _) (by decide), Nat.xor_zero]
    unfold u64 Lib.zigzag
    rw [if_pos h]
    omega
  · rw [show t / 9223372036854775808 % 18446744073709551616 = ((18446744073709551615 : Nat) : Int) by omega, bits_xor_nat _ _ (u64_lt _) (by decide), xor_ones _ (u64_lt _)]
    unfold u64 Lib.zigzag
    rw [if_neg h]
    omega

theorem w64 (x : Int) : wrap64 x = i64 x := by
  unfold i64 wrap64
  rw [IntKind.wrap_i64]
theorem St.value_rest (s : St) (vb : Nat) : (s.value vb).n = s.n ∧ (s.value vb).t0 = s.t0 ∧ (s.value vb).t = s.t ∧ (s.value vb).td = s.td ∧ (s.value vb).v = s.v := by
  unfold St.value
  split
  · exact ⟨rfl, rfl, rfl, rfl, rfl⟩
  · split <;> exact ⟨rfl, rfl, rfl, rfl, rfl⟩
theorem St.dod_rest (s : St) (d : Int) : (s.dod d).n = s.n ∧ (s.dod d).t0 = s.t0 ∧ (s.dod d).t = s.t ∧ (s.dod d).td = s.td ∧ (s.dod d).v = s.v := by
  unfold St.dod
  split
  · exact ⟨rfl, rfl, rfl, rfl, rfl⟩
  split
  · exact ⟨rfl, rfl, rfl, rfl, rfl⟩
  split
  · exact ⟨rfl, rfl, rfl, rfl, rfl⟩
  split <;> exact ⟨rfl, rfl, rfl, rfl, rfl⟩
/-- The last three stores. -/
theorem ModelAt.done {w : World} {m : Nat} {s : St} {bv : Value} (h : ModelAt w m s bv) (t : Int) (vb n : Nat) :
    ModelAt (((w.setCell ⟨m, 4, none⟩ (.int .i64 t)).setCell ⟨m, 6, none⟩ (.int .u64 (vb : Int))).setCell ⟨m, 2, none⟩ (.int .u16 (n : Int))) m { s with t := t, v := vb, n := n } bv :=
  ⟨(blk_set (blk_set (blk_set h.blk 4 _) 6 _) 2 _).trans rfl, own_other (own_other (own_other h.own h.ne _) h.ne _) h.ne _⟩

set_option maxHeartbeats 4000000 in
theorem step_walk (m vb : Nat) (t : Int) (s : St) (bv : Value) (w : World) (hM : ModelAt w m s bv) (hO : s.Ok) (hv : vb < 18446744073709551616) (h0 : -9223372036854775808 ≤ t) (h1 : t ≤ 9223372036854775807) (hn : s.n ≤ 65535) (hL : s.bs.length ≤ 800000000) :
    Calls Ybaf.prog 6 #[.pointer (some ⟨m, 0, none⟩), .int .i64 t, .int .u64 vb] w fun e w' => e = .returned (.int .i64 (s.kind t)) ∧ ∃ bv', ModelAt w' m (s.next t vb) bv' ∧ Step (footOf m bv) w (footOf m bv') w' := by
  have HL : Hid (s.bs.length ≤ 800000000) := hL
  have HV : Hid (vb < 18446744073709551616) := hv
  have H0 : Hid (-9223372036854775808 ≤ t) := h0
  have H1 : Hid (t ≤ 9223372036854775807) := h1
  have c2 : w.cell? ⟨m, 2, none⟩ = some (.int .u16 s.n) := cell_of_blk hM.blk
  have c3 : w.cell? ⟨m, 3, none⟩ = some (.int .i64 s.t0) := cell_of_blk hM.blk
  have c4 : w.cell? ⟨m, 4, none⟩ = some (.int .i64 s.t) := cell_of_blk hM.blk
  have c5 : w.cell? ⟨m, 5, none⟩ = some (.int .i64 s.td) := cell_of_blk hM.blk
  have f0 := frozen_of_blk hM.blk
  clear hL hv h0 h1
  by_cases hf : s.n = 65535
  · have e1 : s.kind t = 1 := by unfold St.kind; rw [if_pos hf]
    have e2 : s.next t vb = s := by unfold St.next; rw [if_pos hf]
    rw [e1, e2]
    clear e1 e2
    go_enter Ybaf.func6, Ybaf.ntmps6
    go_wp2
    go_ret
    exact ⟨rfl, bv, hM, Step.refl _ _⟩
  by_cases hz : s.n = 0
  · have e1 : s.kind t = 0 := by unfold St.kind; rw [if_neg hf, if_neg (by omega)]
    have e2 : s.next t vb = { s.first t vb with t := t, v := vb, n := s.n + 1 } := by unfold St.next; rw [if_neg hf, if_neg (by omega), if_pos hz]
    rw [e1, e2]
    clear e1 e2
    obtain ⟨U, hU⟩ : ∃ U : Nat, U = Lib.zigzag t := ⟨_, rfl⟩
    have hu : bits BinOp.xor IntKind.u64 (IntKind.u64.wrap (IntKind.u64.wrap t * 2)) (IntKind.u64.wrap (t / 9223372036854775808)) = (U : Int) := by rw [hU]; exact zig_eq t H0.out H1.out
    have HU : Hid (U = Lib.zigzag t) := hU
    clear hU
    go_enter Ybaf.func6, Ybaf.ntmps6
    go_wp2_with fail
    have hM1 : ModelAt (w.setCell ⟨m, 3, none⟩ (.int .i64 t)) m { s with t0 := t } bv := hM.store 3 _ rfl rfl
    refine (uvar_walk m U _ bv _ hM1 (by rw [HU.out]; exact zigzag_lt H0.out H1.out) (by have := HL.out; show s.bs.length ≤ _; omega)).mono ?_
    rintro e w1 ⟨rfl, bw1, hM2, hS1⟩
    go_wp2_with fail
    have hlu : (Lib.uvarint U).length ≤ 10 := Lib.uvarint_length64 (by rw [HU.out]; exact zigzag_lt H0.out H1.out)
    refine (put_walk m vb 64 _ bw1 _ hM2 (by decide) (by decide) HV.out (by have := HL.out; rw [St.putAll_length]; show s.bs.length + _ ≤ _; omega)).mono ?_
    rintro e w2 ⟨rfl, bw2, hM3, hS2⟩
    have g2 : w2.cell? ⟨m, 2, none⟩ = some (.int .u16 0) := by
      rw [cell_of_blk hM3.blk]
      show some (Value.int .u16 ((({ s with t0 := t } : St).putAll (Lib.uvarint U)).n : Int)) = _
      rw [(St.putAll_rest (Lib.uvarint U) { s with t0 := t }).1]
      show some (Value.int .u16 (s.n : Int)) = _
      rw [hz]; rfl
    have g4 : (w2.cell? ⟨m, 4, none⟩).isSome = true := by rw [cell_of_blk hM3.blk]; rfl
    have g6 : (w2.cell? ⟨m, 6, none⟩).isSome = true := by rw [cell_of_blk hM3.blk]; rfl
    obtain ⟨y4, g4⟩ := Option.isSome_iff_exists.1 g4
    obtain ⟨y6, g6⟩ := Option.isSome_iff_exists.1 g6
    have f2 := frozen_of_blk hM3.blk
    go_wp2
    go_ret
    refine ⟨rfl, bw2, ?_, ((((((Step.refl (footOf m bv) w).setCell (.inl rfl) _).trans hS1).trans hS2).setCell (.inl rfl) _).setCell (.inl rfl) _).setCell (.inl rfl) _⟩
    have := hM3.done t vb 1
    rw [HU.out] at this
    rw [hz]
    exact this
  by_cases hle : t ≤ s.t
  · have e1 : s.kind t = 2 := by unfold St.kind; rw [if_neg hf, if_pos ⟨by omega, hle⟩]
    have e2 : s.next t vb = s := by unfold St.next; rw [if_neg hf, if_pos ⟨by omega, hle⟩]
    rw [e1, e2]
    clear e1 e2
    have hp : (0 : Int) < (s.n : Int) := by omega
    go_enter Ybaf.func6, Ybaf.ntmps6
    go_wp2
    go_ret
    exact ⟨rfl, bv, hM, Step.refl _ _⟩
  by_cases h1 : s.n = 1
  · have e1 : s.kind t = 0 := by unfold St.kind; rw [if_neg hf, if_neg (by omega)]
    have e2 : s.next t vb = { s.second t vb with t := t, v := vb, n := s.n + 1 } := by unfold St.next; rw [if_neg hf, if_neg (by omega), if_neg hz, if_pos h1]
    rw [e1, e2]
    clear e1 e2
    obtain ⟨D, hD⟩ : ∃ D : Int, D = i64 (t - s.t) := ⟨_, rfl⟩
    have hd : wrap64 (t - s.t) = D := by rw [hD]; exact w64 _
    have HD : Hid (D = i64 (t - s.t)) := hD
    obtain ⟨U, hU⟩ : ∃ U : Nat, U = u64 D := ⟨_, rfl⟩
    have hu : IntKind.u64.wrap D = (U : Int) := by rw [hU]; exact u64_cast D
    have HU : Hid (U = u64 D) := hU
    have HU2 : Hid (U < 18446744073709551616) := by rw [hU]; exact u64_lt _
    clear hD hU
    go_enter Ybaf.func6, Ybaf.ntmps6
    go_wp2_with fail
    have hM1 : ModelAt (w.setCell ⟨m, 5, none⟩ (.int .i64 D)) m { s with td := D } bv := hM.store 5 _ rfl rfl
    refine (uvar_walk m U _ bv _ hM1 HU2.out (by have := HL.out; show s.bs.length ≤ _; omega)).mono ?_
    rintro e w1 ⟨rfl, bw1, hM2, hS1⟩
    go_wp2_with fail
    have hlu : (Lib.uvarint U).length ≤ 10 := Lib.uvarint_length64 HU2.out
    have hO1 : St.Ok { s with td := D } := ⟨hO.bit, hO.opn, hO.v, hO.lead, hO.trail⟩
    have hO3 := St.Ok.putAll (Lib.uvarint U) hO1
    refine (value_walk m vb _ bw1 _ hM2 hO3 HV.out (by have := HL.out; rw [St.putAll_length]; show s.bs.length + _ ≤ _; omega)).mono ?_
    rintro e w2 ⟨rfl, bw2, hM3, hS2⟩
    have g2 : w2.cell? ⟨m, 2, none⟩ = some (.int .u16 1) := by
      rw [cell_of_blk hM3.blk]
      show some (Value.int .u16 ((St.value _ vb).n : Int)) = _
      rw [(St.value_rest _ vb).1, (St.putAll_rest (Lib.uvarint U) { s with td := D }).1]
      show some (Value.int .u16 (s.n : Int)) = _
      rw [h1]; rfl
    have g4 : (w2.cell? ⟨m, 4, none⟩).isSome = true := by rw [cell_of_blk hM3.blk]; rfl
    have g6 : (w2.cell? ⟨m, 6, none⟩).isSome = true := by rw [cell_of_blk hM3.blk]; rfl
    obtain ⟨y4, g4⟩ := Option.isSome_iff_exists.1 g4
    obtain ⟨y6, g6⟩ := Option.isSome_iff_exists.1 g6
    have f2 := frozen_of_blk hM3.blk
    go_wp2
    go_ret
    refine ⟨rfl, bw2, ?_, ((((((Step.refl (footOf m bv) w).setCell (.inl rfl) _).trans hS1).trans hS2).setCell (.inl rfl) _).setCell (.inl rfl) _).setCell (.inl rfl) _⟩
    have := hM3.done t vb 2
    rw [HU.out, HD.out] at this
    rw [h1]
    exact this
  · have e1 : s.kind t = 0 := by unfold St.kind; rw [if_neg hf, if_neg (by omega)]
    have e2 : s.next t vb = { s.later t vb with t := t, v := vb, n := s.n + 1 } := by unfold St.next; rw [if_neg hf, if_neg (by omega), if_neg hz, if_neg h1]
    rw [e1, e2]
    clear e1 e2
    obtain ⟨D, hD⟩ : ∃ D : Int, D = i64 (t - s.t) := ⟨_, rfl⟩
    have hd : wrap64 (t - s.t) = D := by rw [hD]; exact w64 _
    have HD : Hid (D = i64 (t - s.t)) := hD
    obtain ⟨E, hE⟩ : ∃ E : Int, E = i64 (D - s.td) := ⟨_, rfl⟩
    have he : wrap64 (D - s.td) = E := by rw [hE]; exact w64 _
    have HE : Hid (E = i64 (D - s.td)) := hE
    have hp : (0 : Int) < (s.n : Int) := by omega
    clear hD hE
    go_enter Ybaf.func6, Ybaf.ntmps6
    go_wp2_with fail
    refine (dod_walk m E s bv _ hM (by have := HL.out; omega)).mono ?_
    rintro e w1 ⟨rfl, bw1, hM1, hS1⟩
    have k5 : (w1.cell? ⟨m, 5, none⟩).isSome = true := by rw [cell_of_blk hM1.blk]; rfl
    obtain ⟨y5, k5⟩ := Option.isSome_iff_exists.1 k5
    have f1 := frozen_of_blk hM1.blk
    go_wp2_with fail
    have hM2 : ModelAt (w1.setCell ⟨m, 5, none⟩ (.int .i64 D)) m { (s.dod E) with td := D } bw1 := hM1.store 5 _ rfl rfl
    have hOd := hO.dod E
    have hO3 : St.Ok { (s.dod E) with td := D } := ⟨hOd.1.bit, hOd.1.opn, hOd.1.v, hOd.1.lead, hOd.1.trail⟩
    refine (value_walk m vb _ bw1 _ hM2 hO3 HV.out (by have := HL.out; have := hOd.2; show (s.dod E).bs.length ≤ _; omega)).mono ?_
    rintro e w2 ⟨rfl, bw2, hM3, hS2⟩
    have g2 : w2.cell? ⟨m, 2, none⟩ = some (.int .u16 s.n) := by
      rw [cell_of_blk hM3.blk]
      show some (Value.int .u16 ((St.value _ vb).n : Int)) = _
      rw [(St.value_rest _ vb).1]
      show some (Value.int .u16 ((s.dod E).n : Int)) = _
      rw [(St.dod_rest s E).1]
    have g4 : (w2.cell? ⟨m, 4, none⟩).isSome = true := by rw [cell_of_blk hM3.blk]; rfl
    have g6 : (w2.cell? ⟨m, 6, none⟩).isSome = true := by rw [cell_of_blk hM3.blk]; rfl
    obtain ⟨y4, g4⟩ := Option.isSome_iff_exists.1 g4
    obtain ⟨y6, g6⟩ := Option.isSome_iff_exists.1 g6
    have f2 := frozen_of_blk hM3.blk
    go_wp2
    go_ret
    refine ⟨rfl, bw2, ?_, (((((hS1.setCell (.inl rfl) _).trans hS2).setCell (.inl rfl) _).setCell (.inl rfl) _).setCell (.inl rfl) _)⟩
    have := hM3.done t vb (s.n + 1)
    rw [HE.out, HD.out] at this
    exact this
end Go.Proofs.YbulkecpsFmt
