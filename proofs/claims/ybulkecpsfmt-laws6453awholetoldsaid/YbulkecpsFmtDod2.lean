import Derived.Test.YbulkecpsFmtWrite
import Derived.Test.YbulkecpsFmtDod
namespace Go.Proofs.YbulkecpsFmt
open Go.ChangeShapes Go.WideShapes Go.ChangeAt Go.RowKit
set_option maxRecDepth 100000

/-- The chunk at rest. -/
def CAt (w : World) (c : Nat) (s : St) (h0 h1 g : Nat) : Prop := ∃ N cap, WAt w c s s.bs s.free h0 h1 N g cap
theorem CAt.blk {w : World} {c : Nat} {s : St} {h0 h1 g : Nat} (h : CAt w c s h0 h1 g) : ∃ sl, w.heap[c]? = some (.cells (ccells s sl s.free) 42 (0, 0)) := by
  obtain ⟨N, cap, h⟩ := h
  exact ⟨_, h.blk⟩
theorem CAt.lt {w : World} {c : Nat} {s : St} {h0 h1 g : Nat} (h : CAt w c s h0 h1 g) : ∀ k, wfoot c g k → k < w.heap.size := by
  obtain ⟨N, cap, h⟩ := h
  exact h.lt
theorem CAt.of_block {w w' : World} {c : Nat} {s : St} {h0 h1 g : Nat} (h : CAt w c s h0 h1 g) (hb : ∀ k, wfoot c g k → w'.heap[k]? = w.heap[k]?) : CAt w' c s h0 h1 g := by
  obtain ⟨N, cap, h⟩ := h
  exact ⟨N, cap, h.of_block hb⟩
theorem CAt.drew {w : World} {c : Nat} {s : St} {h0 h1 g : Nat} (h : CAt w c s h0 h1 g) : CAt w.drew c s h0 h1 g := h.of_block fun _ _ => rfl
/-- One of the plain cells is stored. -/
theorem CAt.store {w : World} {c : Nat} {s s' : St} {h0 h1 g : Nat} (h : CAt w c s h0 h1 g) (j : Nat) (u : Value) (hb : s'.bs = s.bs) (ho : s'.opn = s.opn) (hm : ∀ sl f, (ccells s sl f).setIfInBounds j u = ccells s' sl f) : CAt (w.setCell ⟨c, j, none⟩ u) c s' h0 h1 g := by
  obtain ⟨N, cap, h⟩ := h
  have hf : s'.free = s.free := by unfold St.free; rw [hb, ho]
  refine ⟨N, cap, ⟨by rw [blk_set h.blk, hm, hf], ?_, ?_⟩⟩
  · rw [hb, hf]
    exact own_other h.own (by simp [Value.ownBlock]; exact h.ne) _
  · rw [hb, hf]
    exact h.len

theorem write_c (c v n : Nat) (s : St) (h0 h1 g : Nat) (w : World) (hC : CAt w c s h0 h1 g) (hO : s.Ok) (hn : 0 < n) (hn2 : n ≤ 64) (hv : v < 18446744073709551616) (hL : s.bs.length ≤ 900000000) :
    Calls Ybaf.prog 21 #[.pointer (some ⟨c, 0, none⟩), .int .u64 v, .int .i64 n] w fun e w' => e = .returned (.tuple #[]) ∧ ∃ g', CAt w' c (s.put v n) h0 h1 g' ∧ Step (wfoot c g) w (wfoot c g') w' := by
  obtain ⟨N, cap, hW⟩ := hC
  exact (write_walk c v n s h0 h1 N g cap w hW hO hn hn2 hv hL).mono fun e w' ⟨he, N', g', cap', h1, h2⟩ => ⟨he, g', ⟨N', cap', h1⟩, h2⟩

set_option maxHeartbeats 2000000 in
theorem doD_walk (c : Nat) (d : Int) (s : St) (h0 h1 g : Nat) (w : World) (hC : CAt w c s h0 h1 g) (hO : s.Ok) (hL : s.bs.length ≤ 850000000) :
    Calls Ybaf.prog 24 #[.pointer (some ⟨c, 0, none⟩), .int .i64 d] w fun e w' => e = .returned (.tuple #[]) ∧ ∃ g', CAt w' c (s.dod d) h0 h1 g' ∧ Step (wfoot c g) w (wfoot c g') w' := by
  have HL : Hid (s.bs.length ≤ 850000000) := hL
  clear hL
  obtain ⟨U, hU⟩ : ∃ U : Nat, U = u64 d := ⟨_, rfl⟩
  have hu : IntKind.u64.wrap d = (U : Int) := by rw [hU]; exact u64_cast d
  have HU : Hid (U = u64 d) := hU
  have HU2 : Hid (U < 18446744073709551616) := by rw [hU]; exact u64_lt _
  clear hU
  have two : ∀ (a k m : Nat), 0 < k → k ≤ 64 → 0 < m → m ≤ 64 → a < 18446744073709551616 → ∀ w1 g1, CAt w1 c (s.put a k) h0 h1 g1 → Step (wfoot c g) w (wfoot c g1) w1 → s.dod d = (s.put a k).put (u64 d) m →
      Calls Ybaf.prog 21 #[.pointer (some ⟨c, 0, none⟩), .int .u64 U, .int .i64 m] w1 fun e w' => e = .returned (.tuple #[]) ∧ ∃ g', CAt w' c (s.dod d) h0 h1 g' ∧ Step (wfoot c g) w (wfoot c g') w' := by
    intro a k m hk hk2 hm hm2 ha w1 g1 h1 hS e
    refine (write_c c U m _ _ _ _ w1 h1 (hO.put a k) hm hm2 HU2.out (by have := HL.out; rw [St.put_length]; omega)).mono ?_
    rintro e2 w2 ⟨rfl, g2, h2, hS2⟩
    rw [HU.out, ← e] at h2
    exact ⟨rfl, g2, h2, hS.trans hS2⟩
  by_cases hz : d = 0
  · have e2 : s.dod d = s.put 0 1 := by unfold St.dod; rw [if_pos hz]
    rw [e2]
    clear two
    go_enter Ybaf.func24, Ybaf.ntmps24
    go_wp2_with fail
    refine (write_c c 0 1 s h0 h1 g _ hC hO (by decide) (by decide) (by decide) (by have := HL.out; omega)).mono ?_
    rintro e w1 ⟨rfl, g1, h1, hS1⟩
    go_wp2
    go_end0
    exact ⟨rfl, g1, h1, hS1⟩
  by_cases h1d : -8191 ≤ d ∧ d ≤ 8192
  · have e2 : s.dod d = (s.put 2 2).put (u64 d) 14 := by unfold St.dod; rw [if_neg hz, if_pos h1d]
    obtain ⟨h1da, h1db⟩ := h1d
    go_enter Ybaf.func24, Ybaf.ntmps24
    go_wp2_with fail
    refine (write_c c 2 2 s h0 h1 g _ hC hO (by decide) (by decide) (by decide) (by have := HL.out; omega)).mono ?_
    rintro e w1 ⟨rfl, g1, h1, hS1⟩
    go_wp2_with fail
    refine (two 2 2 14 (by decide) (by decide) (by decide) (by decide) (by decide) w1 g1 h1 hS1 e2).mono ?_
    rintro e w2 ⟨rfl, g2, h2, hS2⟩
    go_wp2
    go_end0
    exact ⟨rfl, g2, h2, hS2⟩
  by_cases h2d : -65535 ≤ d ∧ d ≤ 65536
  · have e2 : s.dod d = (s.put 6 3).put (u64 d) 17 := by unfold St.dod; rw [if_neg hz, if_neg h1d, if_pos h2d]
    obtain ⟨h2da, h2db⟩ := h2d
    rcases (by omega : d < -8191 ∨ 8192 < d) with hk | hk
    all_goals
      go_enter Ybaf.func24, Ybaf.ntmps24
      go_wp2_with fail
      refine (write_c c 6 3 s h0 h1 g _ hC hO (by decide) (by decide) (by decide) (by have := HL.out; omega)).mono ?_
      rintro e w1 ⟨rfl, g1, h1, hS1⟩
      go_wp2_with fail
      refine (two 6 3 17 (by decide) (by decide) (by decide) (by decide) (by decide) w1 g1 h1 hS1 e2).mono ?_
      rintro e w2 ⟨rfl, g2, h2, hS2⟩
      go_wp2
      go_end0
      exact ⟨rfl, g2, h2, hS2⟩
  by_cases h3d : -524287 ≤ d ∧ d ≤ 524288
  · have e2 : s.dod d = (s.put 14 4).put (u64 d) 20 := by unfold St.dod; rw [if_neg hz, if_neg h1d, if_neg h2d, if_pos h3d]
    obtain ⟨h3da, h3db⟩ := h3d
    rcases (by omega : d < -65535 ∨ 65536 < d) with hk | hk
    all_goals
      go_enter Ybaf.func24, Ybaf.ntmps24
      go_wp2_with fail
      refine (write_c c 14 4 s h0 h1 g _ hC hO (by decide) (by decide) (by decide) (by have := HL.out; omega)).mono ?_
      rintro e w1 ⟨rfl, g1, h1, hS1⟩
      go_wp2_with fail
      refine (two 14 4 20 (by decide) (by decide) (by decide) (by decide) (by decide) w1 g1 h1 hS1 e2).mono ?_
      rintro e w2 ⟨rfl, g2, h2, hS2⟩
      go_wp2
      go_end0
      exact ⟨rfl, g2, h2, hS2⟩
  · have e2 : s.dod d = (s.put 15 4).put (u64 d) 64 := by unfold St.dod; rw [if_neg hz, if_neg h1d, if_neg h2d, if_neg h3d]
    rcases (by omega : d < -524287 ∨ 524288 < d) with hk | hk
    all_goals
      go_enter Ybaf.func24, Ybaf.ntmps24
      go_wp2_with fail
      refine (write_c c 15 4 s h0 h1 g _ hC hO (by decide) (by decide) (by decide) (by have := HL.out; omega)).mono ?_
      rintro e w1 ⟨rfl, g1, h1, hS1⟩
      go_wp2_with fail
      refine (two 15 4 64 (by decide) (by decide) (by decide) (by decide) (by decide) w1 g1 h1 hS1 e2).mono ?_
      rintro e w2 ⟨rfl, g2, h2, hS2⟩
      go_wp2
      go_end0
      exact ⟨rfl, g2, h2, hS2⟩
end Go.Proofs.YbulkecpsFmt
