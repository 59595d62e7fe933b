import Derived.Test.YbulkecpsFmtRows
import Derived.WalkKit
import Derived.ProofKit
import Derived.OpenShut
import Derived.Outline
import Derived.Handy
import Derived.Deep.QuietTactic
import Derived.BigQuiet
import Derived.WalkSmall
import Derived.Deep.RegionHeld3
import Derived.Laws.BytesArg
namespace Go.Proofs.YbulkecpsFmt
open Go.ChangeShapes Go.WideShapes Go.ChangeAt Go.RowKit
set_option maxRecDepth 100000

theorem nil26 (w : World) : (binOp .eql 26 (.slice none 0 0) (.slice none 0 0)).run Ybaf.prog w = .ok (.bool true) w := by kernel_rfl
theorem some26 (w : World) (a : Addr) (l c : Nat) : (binOp .eql 26 (.slice (some a) l c) (.slice none 0 0)).run Ybaf.prog w = .ok (.bool false) w := by kernel_rfl

theorem clone_nil (w : World) : Calls Ybaf.prog 13 #[.slice none 0 0] w fun e w' => e = .returned (.slice none 0 0) ∧ w' = w := by
  have h1 := nil26
  go_enter Ybaf.func13, Ybaf.ntmps13
  go_wp2
  go_ret
  exact ⟨rfl, rfl⟩

theorem info5 : (Ybaf.prog.info? 5).map (fun i => (i.zero, i.size, i.bytes)) = some (some (.int .u8 0), 1, 1) := by kernel_rfl

/-- The cells of the bytes f. -/
def row (f : Nat → Nat) (n : Nat) : List Value := (List.range n).map fun i => Value.int .u8 (f i)
theorem row_length (f : Nat → Nat) (n : Nat) : (row f n).length = n := by simp [row]
theorem row_get (f : Nat → Nat) (n j : Nat) (h : j < n) : (row f n)[j]? = some (.int .u8 (f j)) := by simp [row, h]
theorem row_cells {W : World} {b off n : Nat} {f : Nat → Nat} (hc : ∀ i, i < n → W.cell? ⟨b, off + i, none⟩ = some (.int .u8 (f i))) (j : Nat) (u : Value) (h : (row f n)[j]? = some u) : W.cell? ((⟨b, off, none⟩ : Addr).add j) = some u := by
  have hj : j < n := by
    have := (List.getElem?_eq_some_iff.1 h).1
    rwa [row_length] at this
  rw [row_get f n j hj] at h
  cases h
  rw [Addr.add_lit]
  exact hc j hj
theorem row_one (f : Nat → Nat) (n : Nat) : ∀ u ∈ row f n, u.oneCell' = true := by
  intro u hu
  obtain ⟨_, _, rfl⟩ := List.mem_map.1 hu
  rfl
/-- A row of the call's own that holds the bytes f. -/
theorem owned {W : World} {base n : Nat} {v : Value} {f : Nat → Nat} (h : W.ownsRow base 5 1 v n (row f n)) (hv : v ≠ .slice none 0 0) :
    ∃ g c, v = .slice (some ⟨g, 0, none⟩) n c ∧ base ≤ g ∧ g < W.heap.size ∧ ∀ i, i < n → W.cell? ⟨g, 0 + i, none⟩ = some (.int .u8 (f i)) := by
  rcases h.2 with ⟨h, _⟩ | ⟨g, cap, cur, rfl, hb, hh, hn, _, hsz, ht⟩
  · exact absurd h hv
  refine ⟨g, cap, rfl, hb, (Array.getElem?_eq_some_iff.1 hh).1, fun i hi => ?_⟩
  have h1 : cur[i]? = some (.int .u8 (f i)) := by
    have := row_get f n i hi
    rw [← ht, List.getElem?_take] at this
    simpa [hi] using this
  simp [World.cell?, hh, h1]

set_option maxHeartbeats 400000 in
theorem clone_some (x : Addr) (len cap : Nat) (f : Nat → Nat) (w : World) (hc : ∀ (o : Obj) j u, (row f len)[j]? = some u → (w.alloc o).cell? (x.add j) = some u) (hl : len ≤ 140737488351232) :
    Calls Ybaf.prog 13 #[.slice (some x) len cap] w fun e w' => ∃ (g c : Nat), e = .returned (.slice (some ⟨g, 0, none⟩) len c) ∧ Below w.heap.size w w' ∧ w.heap.size ≤ g ∧ g < w'.heap.size ∧ ∀ i, i < len → w'.cell? ⟨g, 0 + i, none⟩ = some (.int .u8 (f i)) := by
  have h1 := some26
  obtain ⟨i0, hi, hz0, hz1, hz2⟩ := info_parts info5
  have hown : (w.alloc (.cells #[] 5)).ownsRow w.heap.size 5 1 (.slice (some ⟨w.heap.size, 0, none⟩) 0 0) 0 [] :=
    ⟨rfl, .inr ⟨w.heap.size, 0, #[], rfl, Nat.le_refl _, heap_alloc_new _ _, Nat.le_refl _, Nat.zero_le _, rfl, rfl⟩⟩
  go_enter Ybaf.func13, Ybaf.ntmps13
  go_wp2_with (at_builtin; refine wpList_append_own _ rfl (.tmp 5) (.tmp 6) 26 rfl w.heap.size 5 i0 (.int .u8 0) 1 1 Ybaf.underlying26 hi hz0 hz1 hz2 rfl (by decide) _ 0 [] rfl hown x len cap (row f len) rfl (by rw [row_length, Nat.mul_one]) (hc _) (row_one f len) (by unfold maxLen; omega) (by omega) (by simp) ?_; intro v1 w1 hown1 hgrow1 hnil1)
  go_ret
  have hv : v1 ≠ .slice none 0 0 := fun e => by have := (hnil1.1 e).1; cases this
  obtain ⟨g, c, rfl, h2, h3, h4⟩ := owned (by simpa using hown1) hv
  exact ⟨g, c, rfl, ((Below.refl _ _).alloc (Nat.le_refl _) _).grown hgrow1 (by simp) (by intro k hk; cases hk; exact Nat.le_refl _), h2, h3, h4⟩

def nums (f : Nat → Nat) (n : Nat) : List Int := (List.range n).map fun i => ((f i : Nat) : Int)
theorem nums_length (f : Nat → Nat) (n : Nat) : (nums f n).length = n := by simp [nums]
theorem nums_get (f : Nat → Nat) (n i : Nat) (h : i < n) : (nums f n).getD i 0 = f i := by simp [nums, List.getD, h]

/-- A []byte, nil or not, that holds the bytes f, below block B. -/
def Bytes (B : Nat) (w : World) (a0 : Option Addr) (len cap : Nat) (f : Nat → Nat) : Prop :=
  (a0 = none ∧ len = 0 ∧ cap = 0) ∨ (∃ x, a0 = some x ∧ len = 0) ∨ ∃ b off, a0 = some ⟨b, off, none⟩ ∧ b < B ∧ ∀ i, i < len → w.cell? ⟨b, off + i, none⟩ = some (.int .u8 (f i))
theorem Bytes.below {B B' : Nat} {w w' : World} {a0 : Option Addr} {len cap : Nat} {f : Nat → Nat} (h : Bytes B w a0 len cap f) (hB : Below B' w w') (hle : B ≤ B') : Bytes B w' a0 len cap f := by
  rcases h with h | h | ⟨b, off, rfl, hb, hc⟩
  · exact .inl h
  · exact .inr (.inl h)
  · exact .inr (.inr ⟨b, off, rfl, hb, fun i hi => by rw [hB.cell (p := ⟨b, off + i, none⟩) (Nat.lt_of_lt_of_le hb hle)]; exact hc i hi⟩)
theorem Bytes.mono {B B' : Nat} {w : World} {a0 : Option Addr} {len cap : Nat} {f : Nat → Nat} (h : Bytes B w a0 len cap f) (hle : B ≤ B') : Bytes B' w a0 len cap f := by
  rcases h with h | h | ⟨b, off, rfl, hb, hc⟩
  · exact .inl h
  · exact .inr (.inl h)
  · exact .inr (.inr ⟨b, off, rfl, Nat.lt_of_lt_of_le hb hle, hc⟩)
theorem Bytes.at {B : Nat} {w : World} {a0 : Option Addr} {len cap : Nat} {f : Nat → Nat} (h : Bytes B w a0 len cap f) (hl : 0 < len) :
    ∃ b off, a0 = some ⟨b, off, none⟩ ∧ b < B ∧ ∀ i, i < len → w.cell? ⟨b, off + i, none⟩ = some (.int .u8 (f i)) := by
  rcases h with ⟨_, h, _⟩ | ⟨_, _, h⟩ | h
  · omega
  · omega
  · exact h

theorem clone_any (a0 : Option Addr) (len cap : Nat) (f : Nat → Nat) (w : World) (h : Bytes w.heap.size w a0 len cap f) (hl : len ≤ 140737488351232) :
    Calls Ybaf.prog 13 #[.slice a0 len cap] w fun e w' => ∃ (a1 : Option Addr) (c : Nat), e = .returned (.slice a1 len c) ∧ Below w.heap.size w w' ∧ Bytes w'.heap.size w' a1 len c f := by
  rcases h with ⟨rfl, rfl, rfl⟩ | ⟨x, rfl, rfl⟩ | ⟨b, off, rfl, hb, hc⟩
  · refine (clone_nil w).mono ?_
    rintro e w' ⟨rfl, rfl⟩
    exact ⟨none, 0, rfl, Below.refl _ _, .inl ⟨rfl, rfl, rfl⟩⟩
  · refine (clone_some x 0 cap f w (fun o j u h => by cases h) hl).mono ?_
    rintro e w' ⟨g, c, rfl, h1, h2, h3, h4⟩
    exact ⟨_, c, rfl, h1, .inr (.inr ⟨g, 0, rfl, h3, h4⟩)⟩
  · refine (clone_some ⟨b, off, none⟩ len cap f w (fun o j u h => row_cells (fun i hi => by rw [World.cell?_alloc_past _ _ _ hb]; exact hc i hi) j u h) hl).mono ?_
    rintro e w' ⟨g, c, rfl, h1, h2, h3, h4⟩
    exact ⟨_, c, rfl, h1, .inr (.inr ⟨g, 0, rfl, h3, h4⟩)⟩


set_option maxHeartbeats 1000000 in
/-- slices.Equal of two slices that hold the same bytes. -/
theorem equal_any {B B' : Nat} (a0 a1 : Option Addr) (len cap cap' : Nat) (f : Nat → Nat) (w : World) (hl : len ≤ 140737488351232) (h : Bytes B w a0 len cap f) (h' : Bytes B' w a1 len cap' f) :
    Calls Ybaf.prog 11 #[.slice a0 len cap, .slice a1 len cap'] w fun e w' => e = .returned (.bool true) ∧ ∃ nq, w' = w.drewN nq := by
  go_enter Ybaf.func11, Ybaf.ntmps11
  go_wp2
  go_loopw [13] (fun i wr => ∃ (k nq : Nat), k ≤ len ∧ i = .int .i64 k ∧ wr = w.drewN nq) (fun i _ => len - (intOf i).toNat)
  case atStart => exact ⟨0, 0, Nat.zero_le _, rfl, rfl⟩
  case round =>
    obtain ⟨k, nq, hk, rfl, rfl⟩ := hrel
    by_cases hlt : k < len
    · obtain ⟨b, off, rfl, hb, hc⟩ := h.at (by omega)
      obtain ⟨b', off', rfl, hb', hc'⟩ := h'.at (by omega)
      have h1 := hc k hlt
      have h2 := hc' k hlt
      go_wp2
      go_quiet (fail)
      go_wp2
      go_roundw
      case rel => exact ⟨k + 1, _, by omega, by go_num, rfl⟩
      case measure => simp [intOf]; omega
    · go_wp2
      go_ret
      exact ⟨rfl, _, rfl⟩

end Go.Proofs.YbulkecpsFmt
