import Derived.Test.YbulkecpsFmtPush
import Derived.Test.YbulkecpsFmtSmall
namespace Go.Proofs.YbulkecpsFmt
open Go.ChangeShapes Go.WideShapes Go.ChangeAt Go.RowKit
set_option maxRecDepth 100000

/-- The bytes of a stream that may be unfinished, in M bytes behind the count's. -/
def encM (h0 h1 : Nat) (bs : List Nat) (M : Nat) : List Nat := h0 :: h1 :: (List.range M).map (byteAt bs)
theorem encM_length (h0 h1 : Nat) (bs : List Nat) (M : Nat) : (encM h0 h1 bs M).length = M + 2 := by simp [encM]
theorem encM_get (h0 h1 : Nat) (bs : List Nat) (M i : Nat) (h : i < M) : (encM h0 h1 bs M)[2 + i]? = some (byteAt bs i) := by
  rw [show 2 + i = i + 1 + 1 by omega]
  simp [encM, h]
theorem byteAt_nil (i : Nat) : byteAt [] i = 0 := by simp [byteAt]
/-- One bit more. -/
theorem encM_push (h0 h1 : Nat) (bs : List Nat) (b M : Nat) (hb : b ≤ 1) (hM : bs.length / 8 < M) :
    encM h0 h1 (bs ++ [b]) M = (encM h0 h1 bs M).set (2 + bs.length / 8) (byteAt bs (bs.length / 8) ||| b * 2 ^ (7 - bs.length % 8)) := by
  apply List.ext_getElem?
  intro j
  rw [List.getElem?_set]
  match j with
  | 0 => rw [if_neg (by omega)]; rfl
  | 1 => rw [if_neg (by omega)]; rfl
  | j + 2 =>
    by_cases hj : j < M
    · rw [show j + 2 = 2 + j by omega, encM_get _ _ _ _ _ hj, encM_get _ _ _ _ _ hj, byteAt_snoc]
      by_cases e : j = bs.length / 8
      · subst e
        rw [if_pos rfl, if_pos rfl, if_pos (by rw [encM_length]; omega)]
        congr 1
        obtain ⟨q, hq⟩ := byteAt_low bs
        rw [hq]
        refine Nat.two_pow_add_eq_or_of_lt ?_ q
        rw [show 8 - bs.length % 8 = (7 - bs.length % 8) + 1 by omega, Nat.pow_succ]
        have := Nat.two_pow_pos (7 - bs.length % 8)
        generalize 2 ^ (7 - bs.length % 8) = P at this
        rcases Nat.lt_or_ge b 1 with h | h
        · have : b = 0 := by omega
          subst this; omega
        · have : b = 1 := by omega
          subst this; omega
      · rw [if_neg e, if_neg (by omega)]
        rfl
    · rw [if_neg (by omega), List.getElem?_eq_none (by rw [encM_length]; omega), List.getElem?_eq_none (by rw [encM_length]; omega)]
theorem push1_lt (bs : List Nat) (hbs : ∀ b ∈ bs, b ≤ 1) (b i : Nat) (hb : b ≤ 1) : (byteAt bs i ||| b * 2 ^ (7 - bs.length % 8)) < 256 := by
  refine Nat.or_lt_two_pow (n := 8) (byteAt_lt bs hbs _) ?_
  have h1 : 2 ^ (7 - bs.length % 8) ≤ 2 ^ 7 := Nat.pow_le_pow_right (by decide) (by omega)
  generalize 2 ^ (7 - bs.length % 8) = P at h1
  rcases Nat.lt_or_ge b 1 with h | h
  · have : b = 0 := by omega
    subst this; omega
  · have : b = 1 := by omega
    subst this; omega

theorem encM_zero (M : Nat) : encM 0 0 [] M = List.replicate (M + 2) 0 := by
  apply List.ext_getElem?
  intro j
  match j with
  | 0 => simp [encM]
  | 1 => simp [encM]
  | j + 2 =>
    by_cases hj : j < M
    · rw [show j + 2 = 2 + j by omega, encM_get _ _ _ _ _ hj, byteAt_nil, List.getElem?_replicate, if_pos (by omega)]
    · rw [List.getElem?_eq_none (by rw [encM_length]; omega), List.getElem?_eq_none (by simp; omega)]
theorem encM_head (h0 h1 M : Nat) : ((encM 0 0 [] M).set 0 h0).set 1 h1 = encM h0 h1 [] M := rfl
theorem made_u8s (n : Nat) : (madeCells (Value.cells (.int .u8 0)) (n * 1)).toList = u8s (List.replicate n 0) := by
  rw [Nat.mul_one]
  show (madeCells #[Value.int .u8 0] n).toList = _
  rw [toList_madeCells_one]
  simp [u8s]

theorem u64_nat (x : Nat) (h : x ≤ 1000000000) : IntKind.u64.wrap (x : Int) = (x : Int) := by rw [IntKind.wrap_u64]; omega

set_option maxHeartbeats 2000000 in
theorem bytes_walk (m : Nat) (s : St) (bv : Value) (w : World) (hM : ModelAt w m s bv) (hO : s.Ok) (hn : s.n ≤ 65535) (hL : s.bs.length ≤ 800000000) :
    Calls Ybaf.prog 12 #[.pointer (some ⟨m, 0, none⟩)] w fun e w' => e = .returned (.slice (some ⟨w.heap.size, 0, none⟩) (2 + (s.bs.length + s.free) / 8) (2 + (s.bs.length + s.free) / 8)) ∧
      Below w.heap.size w w' ∧ w.heap.size < w'.heap.size ∧ w'.ownsRow 0 5 1 (.slice (some ⟨w.heap.size, 0, none⟩) (2 + (s.bs.length + s.free) / 8) (2 + (s.bs.length + s.free) / 8)) (2 + (s.bs.length + s.free) / 8) (u8s (enc (s.n / 256) (s.n % 256) s.bs s.free)) := by
  obtain ⟨i0, hi, hz0, hz1, hz2⟩ := info_parts info5
  obtain ⟨M, hM2⟩ : ∃ M : Nat, M = (s.bs.length + s.free) / 8 := ⟨_, rfl⟩
  obtain ⟨Z, hZ⟩ : ∃ Z : Nat, Z = 2 + M := ⟨_, rfl⟩
  have hf8 : s.free ≤ 8 := freeOf_le _ _
  have hZ9 : Z ≤ 900000000 := by omega
  have HZ9 : Hid (Z ≤ 900000000) := hZ9
  have hML : ∀ i, i < s.bs.length → i / 8 < M := by
    have h1 := freeOf_al s.bs.length s.opn hO.opn
    have h2 : s.free = freeOf s.bs.length s.opn := rfl
    rw [← h2] at h1
    intro i hi
    omega
  have hbl := blen_walk m s bv w hM hO (by omega)
  have e0 : enc (s.n / 256) (s.n % 256) s.bs s.free = encM (s.n / 256) (s.n % 256) s.bs M := by rw [hM2]; rfl
  rw [e0, ← hM2, ← hZ]
  rw [← hM2, ← hZ] at hbl
  have HZ : Hid (Z = 2 + M) := hZ
  have HML : Hid (∀ i, i < s.bs.length → i / 8 < M) := hML
  obtain ⟨a, cap, rfl⟩ := hM.slice
  have c0 : w.cell? ⟨m, 0, none⟩ = some (.slice a s.bs.length cap) := cell_of_blk hM.blk
  have c2 : w.cell? ⟨m, 2, none⟩ = some (.int .u16 s.n) := cell_of_blk hM.blk
  have hmlt : m < w.heap.size := hM.lt m (.inl rfl)
  obtain ⟨w1, hmk, hown0, hg0⟩ := run_make_full (P := Ybaf.prog) w 0 26 5 i0 (.int .u8 0) 1 Ybaf.underlying26 hi hz0 hz1 .i64 .i64 Z (by rw [hz2]; omega) (by unfold maxLen; omega) (Nat.zero_le _)
  rw [made_u8s, hZ, Nat.add_comm 2 M, ← encM_zero, Nat.add_comm M 2, ← hZ] at hown0
  have hB0 : Below w.heap.size w w1 := ⟨hg0.os, hg0.tape, hg0.output, hg0.size, fun k hk => hg0.block k hk (by simp)⟩
  have hz : 0 < Z ∧ 1 < Z := by omega
  have g0 : w1.cell? ⟨w.heap.size, 0, none⟩ = some (.int .u8 0) := by rw [hown0.cellAt 0 (by omega)]; rfl
  have g1 : w1.cell? ⟨w.heap.size, 1, none⟩ = some (.int .u8 0) := by rw [hown0.cellAt 1 (by omega)]; rfl
  have g2 := hown0.frozenAt
  have k0 : w1.cell? ⟨m, 0, none⟩ = some (.slice a s.bs.length cap) := (hB0.cell (p := ⟨m, 0, none⟩) hmlt).trans c0
  have k2 : w1.cell? ⟨m, 2, none⟩ = some (.int .u16 s.n) := (hB0.cell (p := ⟨m, 2, none⟩) hmlt).trans c2
  have hmn : ¬ m = w.heap.size := by omega
  have hZ1 : (1 : Int) < (Z : Int) := by omega
  have hZ0 : (0 : Int) < (Z : Int) := by omega
  clear hZ hML e0 hM2 hf8 hZ9
  go_enter Ybaf.func12, Ybaf.ntmps12
  go_wp2_with fail
  refine hbl.mono ?_
  rintro e w2 ⟨rfl, hw2⟩
  rw [hw2]
  clear hw2 w2
  go_wp2_with fail
  have hn1 : ((s.n : Int) / 256) = ((s.n / 256 : Nat) : Int) := by omega
  have hn2 : ((s.n : Int) % 256) = ((s.n % 256 : Nat) : Int) := by omega
  have hown2 := ((hown0.stored 0 (.int .u8 ((s.n / 256 : Nat) : Int))).1.stored 1 (.int .u8 ((s.n % 256 : Nat) : Int))).1
  rw [u8s_set, u8s_set, encM_head] at hown2
  have hB2 : Below w.heap.size w ((w1.setCell ⟨w.heap.size, 0, none⟩ (.int .u8 ((s.n / 256 : Nat) : Int))).setCell ⟨w.heap.size, 1, none⟩ (.int .u8 ((s.n % 256 : Nat) : Int))) := (hB0.setCell (Nat.le_refl _) _).setCell (Nat.le_refl _) _
  clear g0 g1 g2 k0 k2 c2 hmk hown0
  go_loopw [4] (fun vi wr => ∃ i : Nat, vi = .int .i64 i ∧ i ≤ s.bs.length ∧ wr.ownsRow 0 5 1 (.slice (some ⟨w.heap.size, 0, none⟩) Z Z) Z (u8s (encM (s.n / 256) (s.n % 256) (s.bs.take i) M)) ∧ Below w.heap.size w wr) (fun vi _ => s.bs.length - (intOf vi).toNat)
  case atStart => exact ⟨0, rfl, Nat.zero_le _, by rw [hn1, hn2]; exact hown2, by rw [hn1, hn2]; exact hB2⟩
  case round =>
    obtain ⟨i, rfl, hiL, hown, hB⟩ := hrel
    clear hn1 hn2
    have k0 : wr.cell? ⟨m, 0, none⟩ = some (.slice a s.bs.length cap) := (hB.cell (p := ⟨m, 0, none⟩) hmlt).trans c0
    by_cases hlt : i < s.bs.length
    · obtain ⟨g, cap', hg, _, _⟩ := hM.own.form (show 0 < s.bs.length by omega)
      simp only [Value.slice.injEq] at hg
      obtain ⟨rfl, _, rfl⟩ := hg
      obtain ⟨b, hb⟩ : ∃ b, s.bs[i]? = some b := ⟨_, List.getElem?_eq_getElem hlt⟩
      have hb1 : b ≤ 1 := hO.bit b (List.mem_of_getElem? hb)
      have hglt : g < w.heap.size := (hM.own.lt g rfl).2
      have kb : wr.cell? ⟨g, i, none⟩ = some (.int .u8 (b : Int)) := by
        rw [hB.cell (p := ⟨g, i, none⟩) hglt, hM.own.cellAt i (by omega), u8s_get, hb]
        rfl
      obtain ⟨q, hq⟩ : ∃ q : Nat, q = i / 8 := ⟨_, rfl⟩
      obtain ⟨Q, hQ⟩ : ∃ Q : Nat, Q = 2 + q := ⟨_, rfl⟩
      obtain ⟨t, ht⟩ : ∃ t : Nat, t = i % 8 := ⟨_, rfl⟩
      obtain ⟨e, he⟩ : ∃ e : Nat, e = 7 - t := ⟨_, rfl⟩
      obtain ⟨B, hBb⟩ : ∃ B : Nat, B = byteAt (s.bs.take i) q := ⟨_, rfl⟩
      have htl : (s.bs.take i).length = i := by rw [List.length_take]; omega
      have hqM : q < M := by rw [hq]; exact HML.out i hlt
      have hZ := HZ.out
      have kB : wr.cell? ⟨w.heap.size, Q, none⟩ = some (.int .u8 (B : Int)) := by
        rw [hown.cellAt Q (by omega), u8s_get, hQ, encM_get _ _ _ _ _ hqM, hBb]
        rfl
      have kF := hown.frozenAt
      have q1 : (i : Int) / 8 = (q : Int) := by omega
      have q2 : (2 : Int) + (q : Int) = (Q : Int) := by omega
      have q3 : (i : Int) % 8 = (t : Int) := by omega
      have q4 : (7 : Int) - (t : Int) = (e : Int) := by omega
      have q5 : (Q : Int) < (Z : Int) := by omega
      have q6 : (i : Int).tdiv 8 = (q : Int) := by rw [Int.tdiv_eq_ediv_of_nonneg (by omega)]; exact q1
      have q7 : (i : Int).tmod 8 = (t : Int) := by rw [Int.tmod_eq_emod_of_nonneg (by omega)]; exact q3
      have he8 : e < 8 := by omega
      have he64 : (e : Int) < 64 := by omega
      have hQ9 : Q ≤ 1000000000 := by have := HZ9.out; omega
      have hiI : (i : Int) < (s.bs.length : Int) := by omega
      have H1 : Hid (q = i / 8) := hq
      have H2 : Hid (Q = 2 + q) := hQ
      have H3 : Hid (t = i % 8) := ht
      have H4 : Hid (e = 7 - t) := he
      have H5 : Hid (B = byteAt (s.bs.take i) q) := hBb
      have K9 := (⟨by omega, hQ9⟩ : Hid9 q Q)
      have K8 := (⟨by omega, by omega⟩ : Hid9 t e)
      clear hq hQ ht he hBb hZ hQ9
      go_wp2
      have v1 : IntKind.i64.wrap (q : Int) = (q : Int) := i64_nat q K9.m
      have v2 : IntKind.i64.wrap (Q : Int) = (Q : Int) := i64_nat Q K9.e
      have v3 : IntKind.i64.wrap (t : Int) = (t : Int) := i64_nat t K8.m
      have v4 : IntKind.i64.wrap (e : Int) = (e : Int) := i64_nat e K8.e
      have v5 : IntKind.u64.wrap (e : Int) = (e : Int) := u64_nat e K8.e
      refine region_tail 19 mixed (by kernel_rfl) ?_
      simp only [List.take_succ_cons, List.take_zero, List.drop_succ_cons, List.drop_zero]
      repeat still_step
      refine wpStill_nil ?_
      clear v1 v2 v3 v4 v5
      go_wp2
      go_roundw
      case rel =>
        have hB8 : B < 256 := by rw [H5.out]; exact byteAt_lt _ (fun b hb => hO.bit b (List.mem_of_mem_take hb)) _
        have hor := or_eq B b e 1 hB8 (by omega) he8 (by omega)
        rw [show min e 8 = e by omega] at hor
        rw [hor]
        refine ⟨i + 1, by go_num, by omega, ?_, (hB.setCell (Nat.le_refl _) _).drew⟩
        have hs := (hown.stored Q (.int .u8 ((B ||| b * 2 ^ e : Nat) : Int))).1
        have hp := encM_push (s.n / 256) (s.n % 256) (s.bs.take i) b M hb1 (by rw [htl]; exact HML.out i hlt)
        rw [htl, ← H1.out, ← H2.out, ← H3.out, ← H4.out, ← H5.out] at hp
        rw [u8s_set, ← hp] at hs
        rw [List.take_add_one, hb]
        exact hs.drew
      case measure => simp [intOf]; omega
    · go_wp2
      go_ret
      have : i = s.bs.length := by omega
      subst this
      rw [List.take_length] at hown
      exact ⟨rfl, hB, Nat.lt_of_lt_of_le (hown.lt _ rfl).2 (Nat.le_refl _), hown⟩
end Go.Proofs.YbulkecpsFmt
