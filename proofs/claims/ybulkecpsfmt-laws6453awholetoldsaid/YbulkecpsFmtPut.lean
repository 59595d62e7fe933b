import Derived.Test.YbulkecpsFmtHeap
namespace Go.Proofs.YbulkecpsFmt
open Go.ChangeShapes Go.WideShapes Go.ChangeAt Go.RowKit
set_option maxRecDepth 100000

theorem own_other {w : World} {m j n base : Nat} {bv : Value} {xs : List Value} (h : w.ownsRow base 5 1 bv n xs) (hne : bv.ownBlock ≠ some m) (u : Value) : (w.setCell ⟨m, j, none⟩ u).ownsRow base 5 1 bv n xs :=
  h.kept (row := some m) ⟨rfl, rfl, rfl, by simp, fun k _ hk => Below.heap_setCell _ _ _ _ (fun e => hk (by rw [e]))⟩ (.inr hne)
theorem and_one (x : Nat) (h : x < 18446744073709551616) : bits BinOp.and IntKind.u64 (x : Int) 1 = ((x % 2 : Nat) : Int) := by
  rw [show (1 : Int) = ((1 : Nat) : Int) from rfl, bits_and_u64_nat x 1 h (by decide), Nat.and_one_is_mod]
theorem eq8 (a : Nat) : (((a : Nat) : Int) % 8 == 0) = decide (a % 8 = 0) := by
  by_cases h : a % 8 = 0
  · rw [decide_eq_true h, beq_iff_eq]; omega
  · rw [decide_eq_false h, beq_eq_false_iff_ne]; omega

set_option maxHeartbeats 1000000 in
theorem put_walk (m v n : Nat) (s : St) (bv : Value) (w : World) (hM : ModelAt w m s bv) (hn : 0 < n) (hn2 : n ≤ 64) (hv : v < 18446744073709551616) (hL : s.bs.length ≤ 1000000000) :
    Calls Ybaf.prog 15 #[.pointer (some ⟨m, 0, none⟩), .int .u64 v, .int .i64 n] w fun e w' => e = .returned (.tuple #[]) ∧ ∃ bv', ModelAt w' m (s.put v n) bv' ∧ Step (footOf m bv) w (footOf m bv') w' := by
  obtain ⟨i0, hi, hz0, hz1, hz2⟩ := info_parts info5
  have hn0 : ¬ n = 0 := by omega
  go_enter Ybaf.func15, Ybaf.ntmps15
  go_wp2
  go_loopw [6] (fun vi wr => ∃ (j : Nat) (r : List Nat) (bw : Value), vi = .int .i64 ((j : Int) - 1) ∧ j ≤ n ∧ r ++ bitsOf v j = s.bs ++ bitsOf v n ∧ ModelAt wr m { s with bs := r } bw ∧ Step (footOf m bv) w (footOf m bw) wr)
    (fun vi _ => (intOf vi + 1).toNat)
  case atStart => exact ⟨n, s.bs, bv, by go_num, Nat.le_refl _, rfl, hM, Step.refl _ _⟩
  case round =>
    obtain ⟨j, r, bw, rfl, hj, hr, hMr, hS⟩ := hrel
    have c0 : wr.cell? ⟨m, 0, none⟩ = some bw := cell_of_blk hMr.blk
    have f0 := frozen_of_blk hMr.blk
    have c1 : wr.cell? ⟨m, 1, none⟩ = some (.bool s.opn) := cell_of_blk hMr.blk
    by_cases h0 : j = 0
    · subst h0
      have hl : r.length = s.bs.length + n := by have := congrArg List.length hr; simpa [bitsOf_length] using this
      have hr' : r = s.bs ++ bitsOf v n := by simpa [bitsOf] using hr
      obtain ⟨g, cap, rfl, _, _⟩ := hMr.own.form (show 0 < r.length by omega)
      have hl2 : ((r.length : Nat) : Int) ≤ 1000000064 := by omega
      have hne := hMr.ne
      have fin : ∀ o : Bool, o = openOf n (s.bs.length + n) → ∃ bv', ModelAt (wr.setCell ⟨m, 1, none⟩ (.bool o)) m (s.put v n) bv' ∧ Step (footOf m bv) w (footOf m bv') (wr.setCell ⟨m, 1, none⟩ (.bool o)) := fun o ho => by
        subst ho
        refine ⟨_, ⟨(blk_set hMr.blk 1 _).trans rfl, ?_⟩, hS.setCell (.inl rfl) _⟩
        have := own_other (j := 1) hMr.own hne (.bool (openOf n (s.bs.length + n)))
        rw [← show r = (s.put v n).bs from hr']
        exact this
      clear hr'
      go_wp2
      · go_end0
        refine ⟨rfl, fin _ ?_⟩
        rename_i h8
        have h8' : n % 8 = 0 := by omega
        simp only [openOf, h8', decide_true, Bool.true_and]
        rw [← eq8, Int.natCast_add]
      · go_end0
        refine ⟨rfl, fin _ ?_⟩
        rename_i h8 _ _ _
        have h8' : ¬ n % 8 = 0 := by omega
        simp only [openOf, h8', decide_false, Bool.false_and]
    · obtain ⟨i, rfl⟩ : ∃ i, j = i + 1 := ⟨j - 1, by omega⟩
      obtain ⟨b, hb⟩ : ∃ b : Nat, b = v / 2 ^ i % 2 := ⟨_, rfl⟩
      have hx : v / 2 ^ i < 18446744073709551616 := Nat.lt_of_le_of_lt (Nat.div_le_self _ _) hv
      have hbit : bits BinOp.and IntKind.u64 ((v : Int) / 2 ^ i) 1 % 256 = (b : Int) := by
        have h1 := and_one (v / 2 ^ i) hx
        rw [Int.natCast_ediv, Int.natCast_pow] at h1
        rw [show ((2 : Nat) : Int) = 2 from rfl] at h1
        rw [h1, hb]
        omega
      have HB : Hid (b = v / 2 ^ i % 2) := hb
      have HX : Hid (v / 2 ^ i < 18446744073709551616) := hx
      have hlr : r.length ≤ 1000000064 := by have := congrArg List.length hr; simp [bitsOf_length] at this; omega
      have HL : Hid (r.length ≤ 1000000064) := hlr
      clear hb hx hlr
      go_wp2_with (at_builtin; refine wpList_append_lies _ rfl _ _ 26 rfl 0 5 i0 (.int .u8 0) 1 1 Ybaf.underlying26 hi hz0 hz1 hz2 rfl (by decide) _ _ _ rfl (hMr.own.alloc _) ⟨wr.heap.size, 0, none⟩ 1 1 [Value.int .u8 (b : Int)] rfl rfl ?c1 ?c2 (by decide) ?c3 ?c4 (Nat.zero_le _) _ rfl ?_)
      case c1 => exact cell_one_new _ _ _
      case c2 => intro u hu; simp at hu; subst hu; rfl
      case c3 => have := HL.out; unfold maxLen; simp; omega
      case c4 => have := HL.out; simp; omega
      intro g cap w1 hown1 hgrow hat hlt
      have hmlt : m < wr.heap.size := hMr.lt m (.inl rfl)
      have hne := hMr.ne
      have hblk : w1.heap[m]? = some (.cells (mcells { s with bs := r } bw) 30 (0, 0)) := by
        rw [hgrow.block m (by simp; omega) (fun e => hne e.symm), Below.heap_alloc _ _ _ hmlt]
        exact hMr.blk
      have hgm : g ≠ m := by
        rcases hat with h | h
        · intro e; subst e; exact hne h
        · intro e; rw [e] at h; omega
      have d0 : w1.cell? ⟨m, 0, none⟩ = some bw := cell_of_blk hblk
      have f1 := frozen_of_blk hblk
      have HR : Hid (r ++ bitsOf v (i + 1) = s.bs ++ bitsOf v n) := hr
      have HG : Hid (g ≠ m) := hgm
      clear hr c0 f0 c1 hgm hmlt
      go_wp2
      go_roundw
      case rel =>
        refine ⟨i, r ++ [b], .slice (some ⟨g, 0, none⟩) (r.length + 1) cap, by go_num, by omega, ?_, ⟨(blk_set hblk 0 _).trans rfl, ?_⟩, ?_⟩
        · rw [← HR.out, HB.out]; simp [bitsOf]
        · have := own_other (m := m) (j := 0) hown1 (by simp [Value.ownBlock]; exact HG.out) (.slice (some ⟨g, 0, none⟩) (r.length + 1) cap)
          rw [show ({ s with bs := r ++ [b] } : St).bs.length = r.length + 1 by simp, show ({ s with bs := r ++ [b] } : St).bs = r ++ [b] from rfl, u8s_append]
          exact this
        · refine Step.setCell (Step.grown (F'' := footOf m (.slice (some ⟨g, 0, none⟩) (r.length + 1) cap)) (hS.alloc _) hgrow (fun k hk => .inr hk) (fun k hk => ?_)) (.inl rfl) _
          rcases hk with h | h
          · exact .inl (.inl h)
          · simp [Value.ownBlock] at h
            subst h
            rcases hat with h | h
            · exact .inl (.inr h)
            · exact .inr (by rw [h]; simp)
      case measure => simp [intOf]
end Go.Proofs.YbulkecpsFmt
