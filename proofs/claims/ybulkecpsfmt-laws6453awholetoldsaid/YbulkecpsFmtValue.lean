import Derived.Test.YbulkecpsFmtUvar
namespace Go.Proofs.YbulkecpsFmt
open Go.ChangeShapes Go.WideShapes Go.ChangeAt Go.RowKit
set_option maxRecDepth 100000

theorem ModelAt.drew {w : World} {m : Nat} {s : St} {bv : Value} (h : ModelAt w m s bv) : ModelAt w.drew m s bv := h.of_block fun _ _ => rfl
theorem and_one_sh (X k : Nat) (h : X < 18446744073709551616) : bits BinOp.and IntKind.u64 ((X : Int) / 2 ^ k) 1 = ((X / 2 ^ k % 2 : Nat) : Int) := by
  have h1 := and_one (X / 2 ^ k) (Nat.lt_of_le_of_lt (Nat.div_le_self _ _) h)
  rw [Int.natCast_ediv, Int.natCast_pow, show ((2 : Nat) : Int) = 2 from rfl] at h1
  exact h1
theorem put_low6 (s : St) (W : Nat) : s.put (W % 64) 6 = s.put W 6 := by unfold St.put; rw [show W % 64 = W % 2 ^ 6 from rfl, bitsOf_mod W 6 6 (Nat.le_refl _)]
theorem and63 (W : Nat) (h : W ≤ 64) : bits BinOp.and IntKind.u64 (W : Int) 63 = ((W % 64 : Nat) : Int) := by
  rw [show (63 : Int) = ((63 : Nat) : Int) from rfl, bits_and_u64_nat W 63 (by omega) (by decide)]
  rw [show W &&& 63 = W % 64 from Nat.and_two_pow_sub_one_eq_mod W 6]
theorem shr_cast (X k : Nat) : (X : Int) / 2 ^ k = ((X / 2 ^ k : Nat) : Int) := by rw [Int.natCast_ediv, Int.natCast_pow]; rfl
theorem shr_lt (X k : Nat) (h : X < 18446744073709551616) : X / 2 ^ k < 18446744073709551616 := Nat.lt_of_le_of_lt (Nat.div_le_self _ _) h
theorem ModelAt.window {w : World} {m : Nat} {s : St} {bv : Value} (h : ModelAt w m s bv) (l t : Nat) :
    ModelAt (((w.setCell ⟨m, 7, none⟩ (.int .i64 (l : Int))).setCell ⟨m, 8, none⟩ (.int .i64 (t : Int))).setCell ⟨m, 9, none⟩ (.bool true)) m { s with lead := l, trail := t, set := true } bv :=
  ⟨(blk_set (blk_set (blk_set h.blk 7 _) 8 _) 9 _).trans rfl, own_other (own_other (own_other h.own h.ne _) h.ne _) h.ne _⟩
theorem bits_xor_nat (a b : Nat) (ha : a < 18446744073709551616) (hb : b < 18446744073709551616) : bits .xor .u64 (a : Int) (b : Int) = ((a ^^^ b : Nat) : Int) := by
  have hx := xor_lt ha hb
  have h1 : (BitVec.ofInt 64 (a : Int)).toNat = a := by
    rw [BitVec.ofInt_natCast, BitVec.toNat_ofNat]; exact Nat.mod_eq_of_lt (by omega)
  have h2 : (BitVec.ofInt 64 (b : Int)).toNat = b := by
    rw [BitVec.ofInt_natCast, BitVec.toNat_ofNat]; exact Nat.mod_eq_of_lt (by omega)
  show IntKind.u64.wrap ((BitVec.ofInt 64 (a : Int) ^^^ BitVec.ofInt 64 (b : Int)).toNat : Int) = _
  rw [BitVec.toNat_xor, h1, h2, IntKind.wrap_u64]
  omega

set_option maxHeartbeats 6000000 in
theorem value_walk (m vb : Nat) (s : St) (bv : Value) (w : World) (hM : ModelAt w m s bv) (hO : s.Ok) (hv : vb < 18446744073709551616) (hL : s.bs.length ≤ 900000000) :
    Calls Ybaf.prog 16 #[.pointer (some ⟨m, 0, none⟩), .int .u64 vb] w fun e w' => e = .returned (.tuple #[]) ∧ ∃ bv', ModelAt w' m (s.value vb) bv' ∧ Step (footOf m bv) w (footOf m bv') w' := by
  have HL : Hid (s.bs.length ≤ 900000000) := hL
  have c6 : w.cell? ⟨m, 6, none⟩ = some (.int .u64 s.v) := cell_of_blk hM.blk
  have c7 : w.cell? ⟨m, 7, none⟩ = some (.int .i64 s.lead) := cell_of_blk hM.blk
  have c8 : w.cell? ⟨m, 8, none⟩ = some (.int .i64 s.trail) := cell_of_blk hM.blk
  have c9 : w.cell? ⟨m, 9, none⟩ = some (.bool s.set) := cell_of_blk hM.blk
  obtain ⟨X, hX⟩ : ∃ X : Nat, X = vb ^^^ s.v := ⟨_, rfl⟩
  have hx : bits BinOp.xor IntKind.u64 (vb : Int) (s.v : Int) = (X : Int) := by rw [hX]; exact bits_xor_nat _ _ hv hO.v
  have HX : Hid (X = vb ^^^ s.v) := hX
  have HX2 : Hid (X < 18446744073709551616) := by rw [hX]; exact xor_lt hv hO.v
  have HV : Hid (vb < 18446744073709551616) := hv
  clear hX hL hv
  by_cases h0 : X = 0
  · have e : s.value vb = s.put 0 1 := by unfold St.value; rw [← HX.out, if_pos h0]
    rw [e]
    go_enter Ybaf.func16, Ybaf.ntmps16
    go_wp2_with fail
    refine (put_walk m 0 1 s bv _ hM (by decide) (by decide) (by decide) (by have := HL.out; omega)).mono ?_
    rintro e w1 ⟨rfl, bw1, hM1, hS1⟩
    go_wp2
    go_returns
    exact ⟨rfl, bw1, hM1, hS1⟩
  · obtain ⟨Z, hZ⟩ : ∃ Z : Nat, Z = 64 - Lib.bitLen X := ⟨_, rfl⟩
    obtain ⟨T, hT⟩ : ∃ T : Nat, T = Lib.ctz 64 X := ⟨_, rfl⟩
    have hZT : Z + T ≤ 63 := by rw [hZ, hT]; exact lz_tz HX2.out h0
    have zgo : ∀ i, i < Z → X / 2 ^ (63 - i) % 2 = 0 := fun i hi => lz_go HX2.out h0 (by omega)
    have zst : X / 2 ^ (63 - Z) % 2 = 1 := by rw [hZ]; exact lz_stop HX2.out h0
    have tgo : ∀ i, i < T → X / 2 ^ i % 2 = 0 := fun i hi => tz_go HX2.out h0 (by omega)
    have tst : X / 2 ^ T % 2 = 1 := by rw [hT]; exact tz_stop HX2.out h0
    have HA := And.intro zgo (And.intro zst (And.intro tgo tst))
    have HF : Hid _ := HA
    clear HA zgo zst tgo tst
    have HZ : Hid (Z = 64 - Lib.bitLen X) := hZ
    have HT : Hid (T = Lib.ctz 64 X) := hT
    clear hZ hT
    have hx0 : ((X : Int) == 0) = false := by simp; omega
    go_enter Ybaf.func16, Ybaf.ntmps16
    go_wp2_with fail
    go_loop [5] (fun v5 => ∃ i : Nat, v5 = .int .i64 i ∧ i ≤ Z) (fun v5 => 64 - (intOf v5).toNat)
    case atStart => exact ⟨0, rfl, Nat.zero_le _⟩
    case round =>
      obtain ⟨i, rfl, hi⟩ := hrel
      have h63 : (i : Int) ≤ 63 := by omega
      by_cases hlt : i < Z
      · have hb : bits BinOp.and IntKind.u64 ((X : Int) / 2 ^ (63 - i)) 1 = 0 := by rw [and_one_sh _ _ HX2.out, HF.out.1 i hlt]; rfl
        go_wp2_with fail
        case roundEnd => exact ⟨⟨i + 1, by go_num, by omega⟩, by simp [intOf]; omega⟩
      · obtain rfl : i = Z := by omega
        have hb : bits BinOp.and IntKind.u64 ((X : Int) / 2 ^ (63 - i)) 1 = 1 := by rw [and_one_sh _ _ HX2.out, HF.out.2.1]; rfl
        go_wp2_with fail
        go_loop [6] (fun v6 => ∃ k : Nat, v6 = .int .i64 k ∧ k ≤ T) (fun v6 => 64 - (intOf v6).toNat)
        case atStart => exact ⟨0, rfl, Nat.zero_le _⟩
        case round =>
          obtain ⟨k, rfl, hk⟩ := hrel
          have k63 : (k : Int) ≤ 63 := by omega
          by_cases hlk : k < T
          · have hc : bits BinOp.and IntKind.u64 ((X : Int) / 2 ^ k) 1 = 0 := by rw [and_one_sh _ _ HX2.out, HF.out.2.2.1 k hlk]; rfl
            go_wp2_with fail
            case roundEnd => exact ⟨⟨k + 1, by go_num, by omega⟩, by simp [intOf]; omega⟩
          · obtain rfl : k = T := by omega
            have hc : bits BinOp.and IntKind.u64 ((X : Int) / 2 ^ k) 1 = 1 := by rw [and_one_sh _ _ HX2.out, HF.out.2.2.2]; rfl
            by_cases h31 : i ≤ 31
            · have hlz : lzOf X = i := by unfold lzOf; rw [← HZ.out]; omega
              have n31 : ¬ (31 : Int) < (i : Int) := by omega
              have HLZ : Hid (lzOf X = i) := hlz
              clear hlz
              by_cases hset : s.set = true
              · by_cases hl : s.lead ≤ i
                · by_cases ht : s.trail ≤ k
                  · obtain ⟨Q, hQ⟩ : ∃ Q : Nat, Q = X / 2 ^ s.trail := ⟨_, rfl⟩
                    obtain ⟨W, hW⟩ : ∃ W : Nat, W = 64 - s.lead - s.trail := ⟨_, rfl⟩
                    have hq : (X : Int) / 2 ^ s.trail = (Q : Int) := by rw [hQ]; exact shr_cast _ _
                    have hw : (64 : Int) - (s.lead : Int) - (s.trail : Int) = (W : Int) := by have := hO.trail; omega
                    have HQ : Hid (Q = X / 2 ^ s.trail) := hQ
                    have HW : Hid (W = 64 - s.lead - s.trail) := hW
                    have hlt63 : s.lead + s.trail ≤ 63 := hO.trail
                    have r1 : (X : Int) / 2 ^ min (IntKind.u64.wrap (s.trail : Int)).toNat 64 = (Q : Int) := by
                      rw [show min (IntKind.u64.wrap (s.trail : Int)).toNat 64 = s.trail by rw [IntKind.wrap_u64]; omega]; exact hq
                    have r2 : IntKind.i64.wrap (IntKind.i64.wrap (64 - (s.lead : Int)) - (s.trail : Int)) = (W : Int) := by
                      rw [IntKind.wrap_i64, IntKind.wrap_i64]; omega
                    have e : s.value vb = (s.put 2 2).put Q W := by
                      unfold St.value
                      rw [← HX.out, if_neg h0, if_pos ⟨hset, by rw [show lzOf X = i from HLZ.out]; exact hl, by rw [← HT.out]; exact ht⟩, HQ.out, HW.out]
                    have HE : Hid _ := e
                    clear hQ hW e
                    go_wp2_with fail
                    refine (put_walk m 2 2 s bv _ hM (by decide) (by decide) (by decide) (by have := HL.out; omega)).mono ?_
                    rintro e w1 ⟨rfl, bw1, hM1, hS1⟩
                    have d7 : w1.cell? ⟨m, 7, none⟩ = some (.int .i64 s.lead) := cell_of_blk hM1.blk
                    have d8 : w1.cell? ⟨m, 8, none⟩ = some (.int .i64 s.trail) := cell_of_blk hM1.blk
                    go_wp2_with fail
                    go_region_held3 (fun w' => w'.cell? ⟨m, 7, none⟩ = some (.int .i64 s.lead) ∧ w'.cell? ⟨m, 8, none⟩ = some (.int .i64 s.trail)) (go_keep)
                      (first | (go_at_call 15; refine (put_walk m Q W _ bw1 _ hM1.drew (by have := HW.out; omega) (by have := HW.out; omega) (by rw [HQ.out]; exact shr_lt _ _ HX2.out) (by have := HL.out; rw [St.put_length]; omega)).mono ?_; rintro e w2 ⟨rfl, bw2, hM2, hS2⟩; have p7 : w2.cell? ⟨m, 7, none⟩ = some (.int .i64 s.lead) := cell_of_blk hM2.blk; have p8 : w2.cell? ⟨m, 8, none⟩ = some (.int .i64 s.trail) := cell_of_blk hM2.blk))
                    go_wp2
                    go_returns
                    exact ⟨rfl, bw2, by rw [HE.out]; exact hM2, hS1.drew.trans hS2⟩
                  · obtain ⟨Q, hQ⟩ : ∃ Q : Nat, Q = X / 2 ^ k := ⟨_, rfl⟩
                    obtain ⟨W, hW⟩ : ∃ W : Nat, W = 64 - i - k := ⟨_, rfl⟩
                    obtain ⟨V, hV⟩ : ∃ V : Nat, V = W % 64 := ⟨_, rfl⟩
                    have hq : (X : Int) / 2 ^ k = (Q : Int) := by rw [hQ]; exact shr_cast _ _
                    have hc2 : bits BinOp.and IntKind.u64 (Q : Int) 1 = 1 := by rw [← hq]; exact hc
                    have hw : (64 : Int) - (i : Int) - (k : Int) = (W : Int) := by omega
                    have hvv : bits BinOp.and IntKind.u64 (W : Int) 63 = (V : Int) := by rw [hV]; exact and63 W (by omega)
                    have hW64 : W ≤ 64 := by omega
                    have hWp : 0 < W := by omega
                    have HQ : Hid (Q = X / 2 ^ k) := hQ
                    have HW : Hid (W = 64 - i - k) := hW
                    have HV2 : Hid (V = W % 64) := hV
                    have e : s.value vb = { ((((s.put 3 2).put i 5).put V 6).put Q W) with lead := i, trail := k, set := true } := by
                      rw [HV2.out, put_low6]
                      unfold St.value
                      rw [← HX.out, if_neg h0, if_neg (by rw [show lzOf X = i from HLZ.out, ← HT.out]; exact fun h => ht h.2.2), show lzOf X = i from HLZ.out, ← HT.out, HQ.out, HW.out]
                    have HE : Hid _ := e
                    clear hQ hW hV e
                    go_wp2_with fail
                    refine (put_walk m 3 2 s bv _ hM (by decide) (by decide) (by decide) (by have := HL.out; omega)).mono ?_
                    rintro e w1 ⟨rfl, bw1, hM1, hS1⟩
                    go_wp2_with fail
                    refine (put_walk m i 5 _ bw1 _ hM1 (by decide) (by decide) (by omega) (by have := HL.out; rw [St.put_length]; omega)).mono ?_
                    rintro e w2 ⟨rfl, bw2, hM2, hS2⟩
                    go_wp2_with fail
                    refine (put_walk m V 6 _ bw2 _ hM2 (by decide) (by decide) (by have := HV2.out; omega) (by have := HL.out; rw [St.put_length, St.put_length]; omega)).mono ?_
                    rintro e w3 ⟨rfl, bw3, hM3, hS3⟩
                    go_wp2_with fail
                    refine (put_walk m Q W _ bw3 _ hM3 hWp hW64 (by rw [HQ.out]; exact shr_lt _ _ HX2.out) (by have := HL.out; rw [St.put_length, St.put_length, St.put_length]; omega)).mono ?_
                    rintro e w4 ⟨rfl, bw4, hM4, hS4⟩
                    have d7 : w4.cell? ⟨m, 7, none⟩ = some (.int .i64 s.lead) := cell_of_blk hM4.blk
                    have d8 : w4.cell? ⟨m, 8, none⟩ = some (.int .i64 s.trail) := cell_of_blk hM4.blk
                    have d9 : w4.cell? ⟨m, 9, none⟩ = some (.bool s.set) := cell_of_blk hM4.blk
                    have f1 := frozen_of_blk hM4.blk
                    go_wp2_with fail
                    go_returns
                    refine ⟨rfl, bw4, by rw [HE.out]; exact hM4.window i k, (((((hS1.trans hS2).trans hS3).trans hS4).setCell (.inl rfl) _).setCell (.inl rfl) _).setCell (.inl rfl) _⟩
                · obtain ⟨Q, hQ⟩ : ∃ Q : Nat, Q = X / 2 ^ k := ⟨_, rfl⟩
                  obtain ⟨W, hW⟩ : ∃ W : Nat, W = 64 - i - k := ⟨_, rfl⟩
                  obtain ⟨V, hV⟩ : ∃ V : Nat, V = W % 64 := ⟨_, rfl⟩
                  have hq : (X : Int) / 2 ^ k = (Q : Int) := by rw [hQ]; exact shr_cast _ _
                  have hc2 : bits BinOp.and IntKind.u64 (Q : Int) 1 = 1 := by rw [← hq]; exact hc
                  have hw : (64 : Int) - (i : Int) - (k : Int) = (W : Int) := by omega
                  have hvv : bits BinOp.and IntKind.u64 (W : Int) 63 = (V : Int) := by rw [hV]; exact and63 W (by omega)
                  have hW64 : W ≤ 64 := by omega
                  have hWp : 0 < W := by omega
                  have HQ : Hid (Q = X / 2 ^ k) := hQ
                  have HW : Hid (W = 64 - i - k) := hW
                  have HV2 : Hid (V = W % 64) := hV
                  have e : s.value vb = { ((((s.put 3 2).put i 5).put V 6).put Q W) with lead := i, trail := k, set := true } := by
                    rw [HV2.out, put_low6]
                    unfold St.value
                    rw [← HX.out, if_neg h0, if_neg (by rw [show lzOf X = i from HLZ.out, ← HT.out]; exact fun h => hl h.2.1), show lzOf X = i from HLZ.out, ← HT.out, HQ.out, HW.out]
                  have HE : Hid _ := e
                  clear hQ hW hV e
                  go_wp2_with fail
                  refine (put_walk m 3 2 s bv _ hM (by decide) (by decide) (by decide) (by have := HL.out; omega)).mono ?_
                  rintro e w1 ⟨rfl, bw1, hM1, hS1⟩
                  go_wp2_with fail
                  refine (put_walk m i 5 _ bw1 _ hM1 (by decide) (by decide) (by omega) (by have := HL.out; rw [St.put_length]; omega)).mono ?_
                  rintro e w2 ⟨rfl, bw2, hM2, hS2⟩
                  go_wp2_with fail
                  refine (put_walk m V 6 _ bw2 _ hM2 (by decide) (by decide) (by have := HV2.out; omega) (by have := HL.out; rw [St.put_length, St.put_length]; omega)).mono ?_
                  rintro e w3 ⟨rfl, bw3, hM3, hS3⟩
                  go_wp2_with fail
                  refine (put_walk m Q W _ bw3 _ hM3 hWp hW64 (by rw [HQ.out]; exact shr_lt _ _ HX2.out) (by have := HL.out; rw [St.put_length, St.put_length, St.put_length]; omega)).mono ?_
                  rintro e w4 ⟨rfl, bw4, hM4, hS4⟩
                  have d7 : w4.cell? ⟨m, 7, none⟩ = some (.int .i64 s.lead) := cell_of_blk hM4.blk
                  have d8 : w4.cell? ⟨m, 8, none⟩ = some (.int .i64 s.trail) := cell_of_blk hM4.blk
                  have d9 : w4.cell? ⟨m, 9, none⟩ = some (.bool s.set) := cell_of_blk hM4.blk
                  have f1 := frozen_of_blk hM4.blk
                  go_wp2_with fail
                  go_returns
                  refine ⟨rfl, bw4, by rw [HE.out]; exact hM4.window i k, (((((hS1.trans hS2).trans hS3).trans hS4).setCell (.inl rfl) _).setCell (.inl rfl) _).setCell (.inl rfl) _⟩
              · obtain ⟨Q, hQ⟩ : ∃ Q : Nat, Q = X / 2 ^ k := ⟨_, rfl⟩
                obtain ⟨W, hW⟩ : ∃ W : Nat, W = 64 - i - k := ⟨_, rfl⟩
                obtain ⟨V, hV⟩ : ∃ V : Nat, V = W % 64 := ⟨_, rfl⟩
                have hq : (X : Int) / 2 ^ k = (Q : Int) := by rw [hQ]; exact shr_cast _ _
                have hc2 : bits BinOp.and IntKind.u64 (Q : Int) 1 = 1 := by rw [← hq]; exact hc
                have hw : (64 : Int) - (i : Int) - (k : Int) = (W : Int) := by omega
                have hvv : bits BinOp.and IntKind.u64 (W : Int) 63 = (V : Int) := by rw [hV]; exact and63 W (by omega)
                have hW64 : W ≤ 64 := by omega
                have hWp : 0 < W := by omega
                have HQ : Hid (Q = X / 2 ^ k) := hQ
                have HW : Hid (W = 64 - i - k) := hW
                have HV2 : Hid (V = W % 64) := hV
                have e : s.value vb = { ((((s.put 3 2).put i 5).put V 6).put Q W) with lead := i, trail := k, set := true } := by
                  rw [HV2.out, put_low6]
                  unfold St.value
                  rw [← HX.out, if_neg h0, if_neg (by rw [show lzOf X = i from HLZ.out, ← HT.out]; exact fun h => hset h.1), show lzOf X = i from HLZ.out, ← HT.out, HQ.out, HW.out]
                have HE : Hid _ := e
                clear hQ hW hV e
                go_wp2_with fail
                refine (put_walk m 3 2 s bv _ hM (by decide) (by decide) (by decide) (by have := HL.out; omega)).mono ?_
                rintro e w1 ⟨rfl, bw1, hM1, hS1⟩
                go_wp2_with fail
                refine (put_walk m i 5 _ bw1 _ hM1 (by decide) (by decide) (by omega) (by have := HL.out; rw [St.put_length]; omega)).mono ?_
                rintro e w2 ⟨rfl, bw2, hM2, hS2⟩
                go_wp2_with fail
                refine (put_walk m V 6 _ bw2 _ hM2 (by decide) (by decide) (by have := HV2.out; omega) (by have := HL.out; rw [St.put_length, St.put_length]; omega)).mono ?_
                rintro e w3 ⟨rfl, bw3, hM3, hS3⟩
                go_wp2_with fail
                refine (put_walk m Q W _ bw3 _ hM3 hWp hW64 (by rw [HQ.out]; exact shr_lt _ _ HX2.out) (by have := HL.out; rw [St.put_length, St.put_length, St.put_length]; omega)).mono ?_
                rintro e w4 ⟨rfl, bw4, hM4, hS4⟩
                have d7 : w4.cell? ⟨m, 7, none⟩ = some (.int .i64 s.lead) := cell_of_blk hM4.blk
                have d8 : w4.cell? ⟨m, 8, none⟩ = some (.int .i64 s.trail) := cell_of_blk hM4.blk
                have d9 : w4.cell? ⟨m, 9, none⟩ = some (.bool s.set) := cell_of_blk hM4.blk
                have f1 := frozen_of_blk hM4.blk
                go_wp2_with fail
                go_returns
                refine ⟨rfl, bw4, by rw [HE.out]; exact hM4.window i k, (((((hS1.trans hS2).trans hS3).trans hS4).setCell (.inl rfl) _).setCell (.inl rfl) _).setCell (.inl rfl) _⟩
            · have hlz : lzOf X = 31 := by unfold lzOf; rw [← HZ.out]; omega
              have n31 : (31 : Int) < (i : Int) := by omega
              have HLZ : Hid (lzOf X = 31) := hlz
              clear hlz
              by_cases hset : s.set = true
              · by_cases hl : s.lead ≤ 31
                · by_cases ht : s.trail ≤ k
                  · obtain ⟨Q, hQ⟩ : ∃ Q : Nat, Q = X / 2 ^ s.trail := ⟨_, rfl⟩
                    obtain ⟨W, hW⟩ : ∃ W : Nat, W = 64 - s.lead - s.trail := ⟨_, rfl⟩
                    have hq : (X : Int) / 2 ^ s.trail = (Q : Int) := by rw [hQ]; exact shr_cast _ _
                    have hw : (64 : Int) - (s.lead : Int) - (s.trail : Int) = (W : Int) := by have := hO.trail; omega
                    have HQ : Hid (Q = X / 2 ^ s.trail) := hQ
                    have HW : Hid (W = 64 - s.lead - s.trail) := hW
                    have hlt63 : s.lead + s.trail ≤ 63 := hO.trail
                    have r1 : (X : Int) / 2 ^ min (IntKind.u64.wrap (s.trail : Int)).toNat 64 = (Q : Int) := by
                      rw [show min (IntKind.u64.wrap (s.trail : Int)).toNat 64 = s.trail by rw [IntKind.wrap_u64]; omega]; exact hq
                    have r2 : IntKind.i64.wrap (IntKind.i64.wrap (64 - (s.lead : Int)) - (s.trail : Int)) = (W : Int) := by
                      rw [IntKind.wrap_i64, IntKind.wrap_i64]; omega
                    have e : s.value vb = (s.put 2 2).put Q W := by
                      unfold St.value
                      rw [← HX.out, if_neg h0, if_pos ⟨hset, by rw [show lzOf X = 31 from HLZ.out]; exact hl, by rw [← HT.out]; exact ht⟩, HQ.out, HW.out]
                    have HE : Hid _ := e
                    clear hQ hW e
                    go_wp2_with fail
                    refine (put_walk m 2 2 s bv _ hM (by decide) (by decide) (by decide) (by have := HL.out; omega)).mono ?_
                    rintro e w1 ⟨rfl, bw1, hM1, hS1⟩
                    have d7 : w1.cell? ⟨m, 7, none⟩ = some (.int .i64 s.lead) := cell_of_blk hM1.blk
                    have d8 : w1.cell? ⟨m, 8, none⟩ = some (.int .i64 s.trail) := cell_of_blk hM1.blk
                    go_wp2_with fail
                    go_region_held3 (fun w' => w'.cell? ⟨m, 7, none⟩ = some (.int .i64 s.lead) ∧ w'.cell? ⟨m, 8, none⟩ = some (.int .i64 s.trail)) (go_keep)
                      (first | (go_at_call 15; refine (put_walk m Q W _ bw1 _ hM1.drew (by have := HW.out; omega) (by have := HW.out; omega) (by rw [HQ.out]; exact shr_lt _ _ HX2.out) (by have := HL.out; rw [St.put_length]; omega)).mono ?_; rintro e w2 ⟨rfl, bw2, hM2, hS2⟩; have p7 : w2.cell? ⟨m, 7, none⟩ = some (.int .i64 s.lead) := cell_of_blk hM2.blk; have p8 : w2.cell? ⟨m, 8, none⟩ = some (.int .i64 s.trail) := cell_of_blk hM2.blk))
                    go_wp2
                    go_returns
                    exact ⟨rfl, bw2, by rw [HE.out]; exact hM2, hS1.drew.trans hS2⟩
                  · obtain ⟨Q, hQ⟩ : ∃ Q : Nat, Q = X / 2 ^ k := ⟨_, rfl⟩
                    obtain ⟨W, hW⟩ : ∃ W : Nat, W = 64 - 31 - k := ⟨_, rfl⟩
                    obtain ⟨V, hV⟩ : ∃ V : Nat, V = W % 64 := ⟨_, rfl⟩
                    have hq : (X : Int) / 2 ^ k = (Q : Int) := by rw [hQ]; exact shr_cast _ _
                    have hc2 : bits BinOp.and IntKind.u64 (Q : Int) 1 = 1 := by rw [← hq]; exact hc
                    have hw : (33 : Int) - (k : Int) = (W : Int) := by omega
                    have hvv : bits BinOp.and IntKind.u64 (W : Int) 63 = (V : Int) := by rw [hV]; exact and63 W (by omega)
                    have hW64 : W ≤ 64 := by omega
                    have hWp : 0 < W := by omega
                    have HQ : Hid (Q = X / 2 ^ k) := hQ
                    have HW : Hid (W = 64 - 31 - k) := hW
                    have HV2 : Hid (V = W % 64) := hV
                    have e : s.value vb = { ((((s.put 3 2).put 31 5).put V 6).put Q W) with lead := 31, trail := k, set := true } := by
                      rw [HV2.out, put_low6]
                      unfold St.value
                      rw [← HX.out, if_neg h0, if_neg (by rw [show lzOf X = 31 from HLZ.out, ← HT.out]; exact fun h => ht h.2.2), show lzOf X = 31 from HLZ.out, ← HT.out, HQ.out, HW.out]
                    have HE : Hid _ := e
                    clear hQ hW hV e
                    go_wp2_with fail
                    refine (put_walk m 3 2 s bv _ hM (by decide) (by decide) (by decide) (by have := HL.out; omega)).mono ?_
                    rintro e w1 ⟨rfl, bw1, hM1, hS1⟩
                    go_wp2_with fail
                    refine (put_walk m 31 5 _ bw1 _ hM1 (by decide) (by decide) (by omega) (by have := HL.out; rw [St.put_length]; omega)).mono ?_
                    rintro e w2 ⟨rfl, bw2, hM2, hS2⟩
                    go_wp2_with fail
                    refine (put_walk m V 6 _ bw2 _ hM2 (by decide) (by decide) (by have := HV2.out; omega) (by have := HL.out; rw [St.put_length, St.put_length]; omega)).mono ?_
                    rintro e w3 ⟨rfl, bw3, hM3, hS3⟩
                    go_wp2_with fail
                    refine (put_walk m Q W _ bw3 _ hM3 hWp hW64 (by rw [HQ.out]; exact shr_lt _ _ HX2.out) (by have := HL.out; rw [St.put_length, St.put_length, St.put_length]; omega)).mono ?_
                    rintro e w4 ⟨rfl, bw4, hM4, hS4⟩
                    have d7 : w4.cell? ⟨m, 7, none⟩ = some (.int .i64 s.lead) := cell_of_blk hM4.blk
                    have d8 : w4.cell? ⟨m, 8, none⟩ = some (.int .i64 s.trail) := cell_of_blk hM4.blk
                    have d9 : w4.cell? ⟨m, 9, none⟩ = some (.bool s.set) := cell_of_blk hM4.blk
                    have f1 := frozen_of_blk hM4.blk
                    go_wp2_with fail
                    go_returns
                    refine ⟨rfl, bw4, by rw [HE.out]; exact hM4.window 31 k, (((((hS1.trans hS2).trans hS3).trans hS4).setCell (.inl rfl) _).setCell (.inl rfl) _).setCell (.inl rfl) _⟩
                · obtain ⟨Q, hQ⟩ : ∃ Q : Nat, Q = X / 2 ^ k := ⟨_, rfl⟩
                  obtain ⟨W, hW⟩ : ∃ W : Nat, W = 64 - 31 - k := ⟨_, rfl⟩
                  obtain ⟨V, hV⟩ : ∃ V : Nat, V = W % 64 := ⟨_, rfl⟩
                  have hq : (X : Int) / 2 ^ k = (Q : Int) := by rw [hQ]; exact shr_cast _ _
                  have hc2 : bits BinOp.and IntKind.u64 (Q : Int) 1 = 1 := by rw [← hq]; exact hc
                  have hw : (33 : Int) - (k : Int) = (W : Int) := by omega
                  have hvv : bits BinOp.and IntKind.u64 (W : Int) 63 = (V : Int) := by rw [hV]; exact and63 W (by omega)
                  have hW64 : W ≤ 64 := by omega
                  have hWp : 0 < W := by omega
                  have HQ : Hid (Q = X / 2 ^ k) := hQ
                  have HW : Hid (W = 64 - 31 - k) := hW
                  have HV2 : Hid (V = W % 64) := hV
                  have e : s.value vb = { ((((s.put 3 2).put 31 5).put V 6).put Q W) with lead := 31, trail := k, set := true } := by
                    rw [HV2.out, put_low6]
                    unfold St.value
                    rw [← HX.out, if_neg h0, if_neg (by rw [show lzOf X = 31 from HLZ.out, ← HT.out]; exact fun h => hl h.2.1), show lzOf X = 31 from HLZ.out, ← HT.out, HQ.out, HW.out]
                  have HE : Hid _ := e
                  clear hQ hW hV e
                  go_wp2_with fail
                  refine (put_walk m 3 2 s bv _ hM (by decide) (by decide) (by decide) (by have := HL.out; omega)).mono ?_
                  rintro e w1 ⟨rfl, bw1, hM1, hS1⟩
                  go_wp2_with fail
                  refine (put_walk m 31 5 _ bw1 _ hM1 (by decide) (by decide) (by omega) (by have := HL.out; rw [St.put_length]; omega)).mono ?_
                  rintro e w2 ⟨rfl, bw2, hM2, hS2⟩
                  go_wp2_with fail
                  refine (put_walk m V 6 _ bw2 _ hM2 (by decide) (by decide) (by have := HV2.out; omega) (by have := HL.out; rw [St.put_length, St.put_length]; omega)).mono ?_
                  rintro e w3 ⟨rfl, bw3, hM3, hS3⟩
                  go_wp2_with fail
                  refine (put_walk m Q W _ bw3 _ hM3 hWp hW64 (by rw [HQ.out]; exact shr_lt _ _ HX2.out) (by have := HL.out; rw [St.put_length, St.put_length, St.put_length]; omega)).mono ?_
                  rintro e w4 ⟨rfl, bw4, hM4, hS4⟩
                  have d7 : w4.cell? ⟨m, 7, none⟩ = some (.int .i64 s.lead) := cell_of_blk hM4.blk
                  have d8 : w4.cell? ⟨m, 8, none⟩ = some (.int .i64 s.trail) := cell_of_blk hM4.blk
                  have d9 : w4.cell? ⟨m, 9, none⟩ = some (.bool s.set) := cell_of_blk hM4.blk
                  have f1 := frozen_of_blk hM4.blk
                  go_wp2_with fail
                  go_returns
                  refine ⟨rfl, bw4, by rw [HE.out]; exact hM4.window 31 k, (((((hS1.trans hS2).trans hS3).trans hS4).setCell (.inl rfl) _).setCell (.inl rfl) _).setCell (.inl rfl) _⟩
              · obtain ⟨Q, hQ⟩ : ∃ Q : Nat, Q = X / 2 ^ k := ⟨_, rfl⟩
                obtain ⟨W, hW⟩ : ∃ W : Nat, W = 64 - 31 - k := ⟨_, rfl⟩
                obtain ⟨V, hV⟩ : ∃ V : Nat, V = W % 64 := ⟨_, rfl⟩
                have hq : (X : Int) / 2 ^ k = (Q : Int) := by rw [hQ]; exact shr_cast _ _
                have hc2 : bits BinOp.and IntKind.u64 (Q : Int) 1 = 1 := by rw [← hq]; exact hc
                have hw : (33 : Int) - (k : Int) = (W : Int) := by omega
                have hvv : bits BinOp.and IntKind.u64 (W : Int) 63 = (V : Int) := by rw [hV]; exact and63 W (by omega)
                have hW64 : W ≤ 64 := by omega
                have hWp : 0 < W := by omega
                have HQ : Hid (Q = X / 2 ^ k) := hQ
                have HW : Hid (W = 64 - 31 - k) := hW
                have HV2 : Hid (V = W % 64) := hV
                have e : s.value vb = { ((((s.put 3 2).put 31 5).put V 6).put Q W) with lead := 31, trail := k, set := true } := by
                  rw [HV2.out, put_low6]
                  unfold St.value
                  rw [← HX.out, if_neg h0, if_neg (by rw [show lzOf X = 31 from HLZ.out, ← HT.out]; exact fun h => hset h.1), show lzOf X = 31 from HLZ.out, ← HT.out, HQ.out, HW.out]
                have HE : Hid _ := e
                clear hQ hW hV e
                go_wp2_with fail
                refine (put_walk m 3 2 s bv _ hM (by decide) (by decide) (by decide) (by have := HL.out; omega)).mono ?_
                rintro e w1 ⟨rfl, bw1, hM1, hS1⟩
                go_wp2_with fail
                refine (put_walk m 31 5 _ bw1 _ hM1 (by decide) (by decide) (by omega) (by have := HL.out; rw [St.put_length]; omega)).mono ?_
                rintro e w2 ⟨rfl, bw2, hM2, hS2⟩
                go_wp2_with fail
                refine (put_walk m V 6 _ bw2 _ hM2 (by decide) (by decide) (by have := HV2.out; omega) (by have := HL.out; rw [St.put_length, St.put_length]; omega)).mono ?_
                rintro e w3 ⟨rfl, bw3, hM3, hS3⟩
                go_wp2_with fail
                refine (put_walk m Q W _ bw3 _ hM3 hWp hW64 (by rw [HQ.out]; exact shr_lt _ _ HX2.out) (by have := HL.out; rw [St.put_length, St.put_length, St.put_length]; omega)).mono ?_
                rintro e w4 ⟨rfl, bw4, hM4, hS4⟩
                have d7 : w4.cell? ⟨m, 7, none⟩ = some (.int .i64 s.lead) := cell_of_blk hM4.blk
                have d8 : w4.cell? ⟨m, 8, none⟩ = some (.int .i64 s.trail) := cell_of_blk hM4.blk
                have d9 : w4.cell? ⟨m, 9, none⟩ = some (.bool s.set) := cell_of_blk hM4.blk
                have f1 := frozen_of_blk hM4.blk
                go_wp2_with fail
                go_returns
                refine ⟨rfl, bw4, by rw [HE.out]; exact hM4.window 31 k, (((((hS1.trans hS2).trans hS3).trans hS4).setCell (.inl rfl) _).setCell (.inl rfl) _).setCell (.inl rfl) _⟩
end Go.Proofs.YbulkecpsFmt
