import Derived.Test.YbulkecpsFmtDod2
namespace Go.Proofs.YbulkecpsFmt
open Go.ChangeShapes Go.WideShapes Go.ChangeAt Go.RowKit
set_option maxRecDepth 100000

theorem new_walk (w : World) : Calls Ybaf.prog 5 #[] w fun e w' => e = .returned (.pointer (some ⟨w.heap.size + 1, 0, none⟩)) ∧ CAt w' (w.heap.size + 1) St.init 0 0 w.heap.size ∧ Below w.heap.size w w' := by
  obtain ⟨i0, hi, hz0, hz1, hz2⟩ := info_parts info5
  have hmk := run_make (P := Ybaf.prog) w 26 5 i0 (.int .u8 0) Ybaf.underlying26 hi hz0 .i64 .i64 2 128 (by decide) (by decide) (by rw [hz2]; decide) (by decide)
  rw [hz1] at hmk
  obtain ⟨cur, hcur⟩ : ∃ cur : Array Value, cur = madeCells (Value.cells (.int .u8 0)) ((128 : Int).toNat * 1) := ⟨_, rfl⟩
  have hcl : cur.toList = List.replicate 128 (.int .u8 0) := by rw [hcur]; exact toList_madeCells_one _ _
  rw [← hcur] at hmk
  clear hcur
  simp only [show (2 : Int).toNat = 2 from rfl, show (128 : Int).toNat = 128 from rfl] at hmk
  go_enter Ybaf.func5, Ybaf.ntmps5
  go_wp2
  go_ret
  refine ⟨rfl, ⟨2, 128, ⟨?_, ⟨rfl, .inr ⟨w.heap.size, 128, cur, rfl, Nat.zero_le _, ?_, by decide, by unfold maxLen; decide, ?_, ?_⟩⟩, rfl⟩⟩, ((Below.refl _ _).alloc (Nat.le_refl _) _).alloc (by simp) _⟩
  · rw [← World.size_alloc w (.cells cur 5)]
    exact heap_alloc_new _ _
  · rw [Below.heap_alloc _ _ _ (by simp)]
    exact heap_alloc_new _ _
  · rw [← Array.length_toList, hcl]; rfl
  · rw [hcl]; rfl

set_option maxHeartbeats 2000000 in
theorem writes_walk (c : Nat) (s : St) (l : List UInt8) (pg pcap : Nat) (h0 h1 g : Nat) (w : World) (hC : CAt w c s h0 h1 g) (hO : s.Ok) (hl : l.length ≤ 10) (hL : s.bs.length ≤ 850000000) (hp : ∀ i (h : i < l.length), w.cell? ⟨pg, i, none⟩ = some (.int .u8 (l[i].toNat : Nat))) (hpg : pg < w.heap.size) (hpf : ¬ wfoot c g pg) :
    Calls Ybaf.prog 19 #[.pointer (some ⟨c, 0, none⟩), .slice (some ⟨pg, 0, none⟩) l.length pcap] w fun e w' => e = .returned (.tuple #[]) ∧ ∃ g', CAt w' c (s.putAll l) h0 h1 g' ∧ Step (wfoot c g) w (wfoot c g') w' := by
  have HL : Hid (s.bs.length ≤ 850000000) := hL
  clear hL
  go_enter Ybaf.func19, Ybaf.ntmps19
  go_wp2
  go_loopw [8] (fun vi wr => ∃ (k gk : Nat), vi = .int .i64 k ∧ k ≤ l.length ∧ CAt wr c (s.putAll (l.take k)) h0 h1 gk ∧ Step (wfoot c g) w (wfoot c gk) wr) (fun vi _ => l.length - (intOf vi).toNat)
  case atStart => exact ⟨0, g, rfl, Nat.zero_le _, hC, Step.refl _ _⟩
  case round =>
    obtain ⟨k, gk, rfl, hk, hCk, hS⟩ := hrel
    by_cases hlt : k < l.length
    · have hb := hp k hlt
      have hcell : wr.cell? ⟨pg, k, none⟩ = some (.int .u8 (l[k].toNat : Nat)) := (World.cell?_of_block (a := ⟨pg, k, none⟩) (hS.block pg hpg hpf)).trans hb
      obtain ⟨b, hbb⟩ : ∃ b : Nat, b = l[k].toNat := ⟨_, rfl⟩
      have hb8 : b < 256 := by rw [hbb]; exact UInt8.toNat_lt _
      rw [← hbb] at hcell
      have hkI : (k : Int) < (l.length : Int) := by omega
      have HB : Hid (b = l[k].toNat) := hbb
      clear hb hbb
      go_wp2_with fail
      refine (write_c c b 8 _ h0 h1 gk _ hCk (St.Ok.putAll _ hO) (by decide) (by decide) (by omega) (by have := HL.out; rw [St.putAll_length, List.length_take]; omega)).mono ?_
      rintro e w1 ⟨rfl, g1, hC1, hS1⟩
      go_wp2
      go_roundw
      case rel =>
        refine ⟨k + 1, g1, by go_num, by omega, ?_, hS.trans hS1⟩
        rw [List.take_add_one, List.getElem?_eq_getElem hlt]
        show CAt w1 c (s.putAll (l.take k ++ [l[k]])) h0 h1 g1
        rw [St.putAll_snoc, ← HB.out]
        exact hC1
      case measure => simp [intOf]; omega
    · have : k = l.length := by omega
      subst this
      rw [List.take_length] at hCk
      go_wp2
      go_end0
      exact ⟨rfl, gk, hCk, hS⟩
end Go.Proofs.YbulkecpsFmt
