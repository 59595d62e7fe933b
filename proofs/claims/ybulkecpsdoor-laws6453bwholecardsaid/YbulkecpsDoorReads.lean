import Derived.Test.YbulkecpsDoorRows
import Derived.Test.YbulkecpsDoorPlain
import Derived.OpenShut
import Derived.Outline
import Derived.Handy
import Derived.Deep.QuietTactic
import Derived.BigQuiet
import Derived.WalkSmall
namespace Go.Proofs.YbulkecpsDoor
open Go.ChangeShapes Go.WideShapes Go.ChangeAt Go.RowKit
set_option maxRecDepth 100000

theorem ret_int {k : IntKind} {a b : Int} (h : a = b) : Ending.returned (.int k a) = .returned (.int k b) := by rw [h]

set_option maxHeartbeats 400000 in
/-- zzs6453bmodel: the n bits from p on. -/
theorem model_any (b off len cap : Nat) (f : Nat → Nat) (p n : Nat) (w : World) (hc : ∀ i, i < len → w.cell? ⟨b, off + i, none⟩ = some (.int .u8 (f i))) (hf : ∀ i, f i ≤ 255) (hl : len ≤ 1048576) (hpn : p + n ≤ len * 8) :
    Calls Ybad.prog 8 #[.slice (some ⟨b, off, none⟩) len cap, .int .i64 p, .int .i64 n] w fun e w' => e = .returned (.int .u64 (val f p n)) ∧ w' = w := by
  go_enter Ybad.func8, Ybad.ntmps8
  go_wp2
  go_loop [7, 8] (fun v i => ∃ k : Nat, k ≤ n ∧ i = .int .i64 k ∧ v = .int .u64 (val f p k)) (fun _ i => n - (intOf i).toNat)
  case atStart => exact ⟨0, Nat.zero_le _, rfl, rfl⟩
  case round =>
    obtain ⟨k, hk, rfl, rfl⟩ := hrel
    have hv := val_lt f p k
    have hff := hf ((p + k) / 8)
    by_cases hlt : k < n
    · have hq : (p + k) / 8 < len := by omega
      have hcq := hc _ hq
      go_wp2
      go_round
      case rel => exact ⟨k + 1, by omega, by go_num, by rw [← step_bit f hf p k]⟩
      case measure => simp [intOf]; omega
    · obtain rfl : k = n := by omega
      go_wp2
      go_ret
      exact ⟨rfl, rfl⟩

set_option maxHeartbeats 400000 in
/-- readBits, the reader has failed before: 0, nothing turned. -/
theorem read_err (r : Nat) (n : Int) (t : TypeId) (x : Value) (w : World) (hr2 : w.cell? ⟨r, 2, none⟩ = some (.iface t x)) :
    Calls Ybad.prog 6 #[.pointer (some ⟨r, 0, none⟩), .int .i64 n] w fun e w' => e = .returned (.int .u64 0) ∧ w' = w := by
  go_enter Ybad.func6, Ybad.ntmps6
  go_wp2
  go_ret
  exact ⟨rfl, rfl⟩

set_option maxHeartbeats 400000 in
/-- readBits, too few bits are left: 0; err is errShort. -/
theorem read_short (r : Nat) (a0 : Option Addr) (len cap p : Nat) (n : Int) (t : TypeId) (x : Addr) (w : World) (hr0 : w.cell? ⟨r, 0, none⟩ = some (.slice a0 len cap)) (hr1 : w.cell? ⟨r, 1, none⟩ = some (.int .i64 p)) (hr2 : w.cell? ⟨r, 2, none⟩ = some .nilIface)
    (hfr : w.frozen? ⟨r, 2, none⟩ = false) (hg : w.cell? ⟨0, 0, none⟩ = some (.iface t (.pointer (some x)))) (hl : len ≤ 1048576) (hp : p ≤ len * 8) (hn : (len : Int) * 8 - p < n) :
    Calls Ybad.prog 6 #[.pointer (some ⟨r, 0, none⟩), .int .i64 n] w fun e w' => e = .returned (.int .u64 0) ∧ ∃ nq, w' = (w.setCell ⟨r, 2, none⟩ (.iface t (.pointer (some x)))).drewN nq := by
  go_enter Ybad.func6, Ybad.ntmps6
  go_wp2
  go_quiet (fail)
  go_wp2
  go_ret
  exact ⟨rfl, _, rfl⟩

set_option maxHeartbeats 400000 in
/-- readBits of no bits. -/
theorem read_none (r : Nat) (a0 : Option Addr) (len cap p : Nat) (n : Int) (w : World) (hr0 : w.cell? ⟨r, 0, none⟩ = some (.slice a0 len cap)) (hr1 : w.cell? ⟨r, 1, none⟩ = some (.int .i64 p)) (hr2 : w.cell? ⟨r, 2, none⟩ = some .nilIface)
    (hl : len ≤ 1048576) (hp : p ≤ len * 8) (hn : n ≤ 0) :
    Calls Ybad.prog 6 #[.pointer (some ⟨r, 0, none⟩), .int .i64 n] w fun e w' => e = .returned (.int .u64 0) ∧ ∃ nq, w' = w.drewN nq := by
  have h2 : ¬ (len : Int) * 8 - p < n := by omega
  go_enter Ybad.func6, Ybad.ntmps6
  go_wp2
  go_quiet (fail)
  go_wp2
  go_loop [1, 5] (fun i v => i = .int .i64 n ∧ v = .int .u64 0) (fun _ _ => 0)
  case atStart => exact ⟨rfl, rfl⟩
  case round =>
    obtain ⟨rfl, rfl⟩ := hrel
    go_wp2
    go_ret
    exact ⟨rfl, _, rfl⟩

/-- The round's one store. -/
theorem wrote {r : Nat} {w wr : World} {x0 x1 x2 : Value} (hB : Below r w wr) (h0 : wr.cell? ⟨r, 0, none⟩ = some x0) (h1 : wr.cell? ⟨r, 1, none⟩ = some x1) (h2 : wr.cell? ⟨r, 2, none⟩ = some x2) (hz : wr.frozen? ⟨r, 1, none⟩ = false) (nq : Nat) (x : Value) :
    Below r w ((wr.drewN nq).setCell ⟨r, 1, none⟩ x) ∧ ((wr.drewN nq).setCell ⟨r, 1, none⟩ x).cell? ⟨r, 0, none⟩ = some x0 ∧ ((wr.drewN nq).setCell ⟨r, 1, none⟩ x).cell? ⟨r, 1, none⟩ = some x ∧ ((wr.drewN nq).setCell ⟨r, 1, none⟩ x).cell? ⟨r, 2, none⟩ = some x2 ∧ ((wr.drewN nq).setCell ⟨r, 1, none⟩ x).frozen? ⟨r, 1, none⟩ = false :=
  ⟨(below_drewN hB nq).setCell (Nat.le_refl _) _, by simp [go_sem, h0], by simp [go_sem, h1], by simp [go_sem, h2], by simp [go_sem, hz]⟩

set_option maxHeartbeats 1000000 in
/-- readBits of n bits that are there. -/
theorem read_bits (b off len cap r : Nat) (f : Nat → Nat) (p n : Nat) (w : World) (hc : ∀ i, i < len → w.cell? ⟨b, off + i, none⟩ = some (.int .u8 (f i))) (hf : ∀ i, f i ≤ 255) (hl : len ≤ 1048576) (hpn : p + n ≤ len * 8)
    (hr0 : w.cell? ⟨r, 0, none⟩ = some (.slice (some ⟨b, off, none⟩) len cap)) (hr1 : w.cell? ⟨r, 1, none⟩ = some (.int .i64 p)) (hr2 : w.cell? ⟨r, 2, none⟩ = some .nilIface) (hne : b < r) (hfr : w.frozen? ⟨r, 1, none⟩ = false) :
    Calls Ybad.prog 6 #[.pointer (some ⟨r, 0, none⟩), .int .i64 n] w fun e w' => e = .returned (.int .u64 (val f p n)) ∧ Below r w w' ∧ w'.cell? ⟨r, 0, none⟩ = some (.slice (some ⟨b, off, none⟩) len cap) ∧ w'.cell? ⟨r, 1, none⟩ = some (.int .i64 (p + n : Nat)) ∧ w'.cell? ⟨r, 2, none⟩ = some .nilIface := by
  have h2 : ¬ (len : Int) * 8 - p < n := by omega
  go_enter Ybad.func6, Ybad.ntmps6
  go_wp2
  go_quiet (fail)
  go_wp2
  go_loopw [1, 5] (fun i v wr => ∃ m : Nat, m ≤ n ∧ i = .int .i64 (n - m : Nat) ∧ v = .int .u64 (val f p m) ∧ Below r w wr ∧ wr.cell? ⟨r, 0, none⟩ = some (.slice (some ⟨b, off, none⟩) len cap) ∧ wr.cell? ⟨r, 1, none⟩ = some (.int .i64 (p + m : Nat)) ∧ wr.cell? ⟨r, 2, none⟩ = some .nilIface ∧ wr.frozen? ⟨r, 1, none⟩ = false) (fun i _ _ => (intOf i).toNat)
  case atStart => exact ⟨0, Nat.zero_le _, rfl, rfl, below_drewN (Below.refl _ _) _, by simpa using hr0, by simpa using hr1, by simpa using hr2, by simpa using hfr⟩
  case round =>
    obtain ⟨m, hm, rfl, rfl, hB, hc0, hc1, hc2, hz⟩ := hrel
    have hv := val_lt f p m
    have hff := hf ((p + m) / 8)
    by_cases hlt : m < n
    · have hq : (p + m) / 8 < len := by omega
      have hcq : wr.cell? ⟨b, off + (p + m) / 8, none⟩ = some (.int .u8 (f ((p + m) / 8))) := by rw [hB.cell (p := ⟨b, off + (p + m) / 8, none⟩) hne]; exact hc _ hq
      go_wp2
      · go_quiet (fail)
        go_wp2
        go_roundw
        case rel =>
          obtain ⟨f1, f2, f3, f4, f5⟩ := wrote hB hc0 hc1 hc2 hz nq (.int .i64 (p + m + (n - m : Nat) : Int))
          exact ⟨m + (n - m), by omega, by go_num, by rw [← step_chunk f hf p m (n - m) (by omega) (by omega)], f1, f2, by rw [f3]; go_num, f4, f5⟩
        case measure => simp [intOf]; omega
      · go_quiet (fail)
        go_wp2
        go_roundw
        case rel =>
          obtain ⟨f1, f2, f3, f4, f5⟩ := wrote hB hc0 hc1 hc2 hz nq (.int .i64 (p + m + (8 - (p + m) % 8) : Int))
          exact ⟨m + (8 - (p + m) % 8), by omega, by go_num, by rw [← step_rest f hf p m], f1, f2, by rw [f3]; go_num, f4, f5⟩
        case measure => simp [intOf]; omega
    · obtain rfl : m = n := by omega
      go_wp2
      go_ret
      exact ⟨rfl, hB, hc0, hc1, hc2⟩
end Go.Proofs.YbulkecpsDoor
