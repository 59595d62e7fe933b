import Derived.WalkKit
import Derived.ProofKit
namespace Go.Proofs.YbulkecpsDoor
/-- Bit q of the bytes f, the most significant bit of each byte first. -/
def bitAt (f : Nat → Nat) (q : Nat) : Nat := f (q / 8) / 2 ^ (7 - q % 8) % 2
/-- The n bits from p on, as a number, its low 64 bits. -/
def val (f : Nat → Nat) (p : Nat) : Nat → Nat
  | 0 => 0
  | n + 1 => (2 * val f p n + bitAt f (p + n)) % 18446744073709551616

theorem val_lt (f : Nat → Nat) (p n : Nat) : val f p n < 18446744073709551616 := by
  cases n with
  | zero => simp [val]
  | succ n => simp only [val]; omega

theorem wraps_u64 (n : Int) (h₀ : 0 ≤ n) (h₁ : n < 2 ^ 64) : IntKind.u64.wrap n = n := by rw [IntKind.wrap_u64]; omega

/-- One bit more, as the model's round says it. -/
theorem step_bit (f : Nat → Nat) (hf : ∀ i, f i ≤ 255) (p k : Nat) :
    bits .or .u64 (IntKind.u64.wrap ((val f p k : Int) * 2)) (IntKind.u64.wrap (bits .and .u8 ((f ((p + k) / 8) : Int) / 2 ^ (7 - (p + k) % 8)) 1)) = ((val f p (k + 1) : Nat) : Int) := by
  have hv := val_lt f p k
  have hb := hf ((p + k) / 8)
  obtain ⟨e, he⟩ : ∃ e, 7 - (p + k) % 8 = e := ⟨_, rfl⟩
  have hd : ((f ((p + k) / 8) : Int) / 2 ^ e) = ((f ((p + k) / 8) / 2 ^ e : Nat) : Int) := by simp
  have hlt : f ((p + k) / 8) / 2 ^ e ≤ 255 := Nat.le_trans (Nat.div_le_self _ _) hb
  have h1 : bits .and .u8 ((f ((p + k) / 8) : Int) / 2 ^ e) 1 = ((f ((p + k) / 8) / 2 ^ e % 2 : Nat) : Int) := by
    rw [hd]
    generalize f ((p + k) / 8) / 2 ^ e = y at hlt
    have := bits_mask .u8 8 (by decide) wraps_u8 1 (by decide) (y : Int) (by omega) (by omega)
    simpa using this
  rw [he, h1]
  simp only [val, bitAt]
  rw [he]
  have h2 : f ((p + k) / 8) / 2 ^ e % 2 < 2 := Nat.mod_lt _ (by decide)
  generalize f ((p + k) / 8) / 2 ^ e % 2 = y at h2 ⊢
  rw [IntKind.wrap_u64, IntKind.wrap_u64]
  rw [bits_join .u64 64 (by decide) wraps_u64 1 _ _ (by omega) (by omega) (by omega) (by omega) (by omega) (by omega)]
  omega

/-- k bits of one byte at once: the chunk. -/
theorem chunk (f : Nat → Nat) (p m : Nat) : ∀ k, (p + m) % 8 + k ≤ 8 → val f p (m + k) = (val f p m * 2 ^ k + f ((p + m) / 8) / 2 ^ (8 - (p + m) % 8 - k) % 2 ^ k) % 18446744073709551616
  | 0, _ => by simp [Nat.mod_one, Nat.mod_eq_of_lt (val_lt f p m)]
  | k + 1, h => by
    have ih := chunk f p m k (by omega)
    have hq : (p + m + k) / 8 = (p + m) / 8 := by omega
    have hr : (p + m + k) % 8 = (p + m) % 8 + k := by omega
    rw [show m + (k + 1) = (m + k) + 1 from rfl]
    simp only [val, bitAt]
    rw [ih, show p + (m + k) = p + m + k from (Nat.add_assoc _ _ _).symm, hq, hr]
    obtain ⟨e, he⟩ : ∃ e, 8 - (p + m) % 8 - (k + 1) = e := ⟨_, rfl⟩
    rw [show 8 - (p + m) % 8 - k = e + 1 from by omega, show 7 - ((p + m) % 8 + k) = e from by omega, he]
    generalize f ((p + m) / 8) = b
    generalize val f p m = v
    have e1 : b / 2 ^ (e + 1) % 2 ^ k * 2 + b / 2 ^ e % 2 = b / 2 ^ e % 2 ^ (k + 1) := by
      have a1 : b / 2 ^ (e + 1) = b / 2 ^ e / 2 := by rw [Nat.pow_succ, Nat.div_div_eq_div_mul]
      rw [a1, Nat.pow_succ, Nat.mul_comm (2 ^ k) 2, Nat.mod_mul]
      omega
    rw [← e1, Nat.pow_succ 2 k]
    generalize b / 2 ^ (e + 1) % 2 ^ k = c
    generalize b / 2 ^ e % 2 = d
    have e2 : v * (2 ^ k * 2) = v * 2 ^ k * 2 := by rw [Nat.mul_assoc]
    rw [e2]
    generalize v * 2 ^ k = z
    omega

/-- The round of readBits. -/
theorem step_chunk (f : Nat → Nat) (hf : ∀ i, f i ≤ 255) (p m k : Nat) (h1 : 1 ≤ k) (h : (p + m) % 8 + k ≤ 8) :
    bits .or .u64 (IntKind.u64.wrap ((val f p m : Int) * 2 ^ k)) (IntKind.u64.wrap (bits .and .u8 ((f ((p + m) / 8) : Int) / 2 ^ (8 - (p + m) % 8 - k)) ((2 ^ k - 1) % 256))) = ((val f p (m + k) : Nat) : Int) := by
  have hv := val_lt f p m
  have hb := hf ((p + m) / 8)
  rw [chunk f p m k h]
  obtain ⟨e, he⟩ : ∃ e, 8 - (p + m) % 8 - k = e := ⟨_, rfl⟩
  rw [he]
  have hd : ((f ((p + m) / 8) : Int) / 2 ^ e) = ((f ((p + m) / 8) / 2 ^ e : Nat) : Int) := by simp
  have hlt : f ((p + m) / 8) / 2 ^ e ≤ 255 := Nat.le_trans (Nat.div_le_self _ _) hb
  have hk : k = 1 ∨ k = 2 ∨ k = 3 ∨ k = 4 ∨ k = 5 ∨ k = 6 ∨ k = 7 ∨ k = 8 := by omega
  have hw : ((2 : Int) ^ k - 1) % 256 = 2 ^ k - 1 := by
    rcases hk with rfl | rfl | rfl | rfl | rfl | rfl | rfl | rfl <;> decide
  rw [hw, hd]
  generalize f ((p + m) / 8) / 2 ^ e = y at hlt ⊢
  rw [bits_mask .u8 8 (by decide) wraps_u8 k (by omega) _ (by omega) (by omega)]
  generalize val f p m = v at hv ⊢
  rw [IntKind.wrap_u64, IntKind.wrap_u64]
  have hj : ∀ x y : Int, 0 ≤ x → x % 2 ^ k = 0 → x < 18446744073709551616 → 0 ≤ y → y < 2 ^ k → y < 18446744073709551616 → bits .or .u64 x y = x + y :=
    bits_join .u64 64 (by decide) wraps_u64 k
  clear hd hw he h hb
  rcases hk with rfl | rfl | rfl | rfl | rfl | rfl | rfl | rfl <;>
  · simp only [Nat.reducePow, Int.reducePow] at hj ⊢
    rw [hj _ _ (by omega) (by omega) (by omega) (by omega) (by omega) (by omega)]
    omega
/-- The round that reads the byte's rest. -/
theorem step_rest (f : Nat → Nat) (hf : ∀ i, f i ≤ 255) (p m : Nat) :
    bits .or .u64 (IntKind.u64.wrap ((val f p m : Int) * 2 ^ (8 - (p + m) % 8))) (IntKind.u64.wrap (bits .and .u8 (f ((p + m) / 8) : Int) ((2 ^ (8 - (p + m) % 8) - 1) % 256))) = ((val f p (m + (8 - (p + m) % 8)) : Nat) : Int) := by
  have h := step_chunk f hf p m (8 - (p + m) % 8) (by omega) (by omega)
  simpa using h
end Go.Proofs.YbulkecpsDoor
