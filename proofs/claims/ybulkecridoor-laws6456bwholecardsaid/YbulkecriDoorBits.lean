import Derived.Test.YbulkecriDoorPlain
namespace Go.Proofs.YbulkecriDoor

theorem sh1_bit (n j : Nat) : (sh1 n).testBit j = (decide (n < 64) && decide (n = j)) := by
  unfold sh1
  by_cases h : n < 64
  · rw [if_pos h, Nat.testBit_two_pow]; simp [h]
  · rw [if_neg h]; simp [h]
theorem sh1_hi (n j : Nat) (hn : n < 18446744073709551616) (hj : j < 64) : (sh1 (sub64 n)).testBit j = decide (n = j + 64) := by
  rw [sh1_bit]
  unfold sub64
  by_cases h : n = j + 64
  · subst h
    have e : (j + 64 + 18446744073709551552) % 18446744073709551616 = j := by omega
    rw [e]
    simp [hj]
  · have : ¬ ((n + 18446744073709551552) % 18446744073709551616 = j) := by omega
    simp [h, this]
theorem ones_bit (e j : Nat) : (ones e).testBit j = decide (j < min e 64) := by
  unfold ones
  by_cases h : e < 64
  · rw [if_pos h, Nat.testBit_two_pow_sub_one]
    have : (j < e) = (j < min e 64) := by simp; omega
    simp [this]
  · rw [if_neg h, show 18446744073709551615 = 2 ^ 64 - 1 from rfl, Nat.testBit_two_pow_sub_one]
    have : (j < 64) = (j < min e 64) := by simp; omega
    simp [this]
theorem shlLo_bit (e f j : Nat) (hj : j < 64) : (shlLo (ones e) f).testBit j = (decide (f ≤ j) && decide (j - f < min e 64)) := by
  unfold shlLo
  by_cases h : f < 64
  · rw [if_pos h, show 18446744073709551616 = 2 ^ 64 from rfl, Nat.testBit_mod_two_pow, Nat.testBit_mul_two_pow, ones_bit]
    simp [hj]
  · rw [if_neg h]
    have : ¬ f ≤ j := by omega
    simp [this]
theorem shlHi_bit (e f j : Nat) (hj : j < 64) : (shlHi (ones e) f).testBit j = (decide (f ≤ j + 64) && decide (j + 64 - f < min e 64)) := by
  unfold shlHi
  by_cases h : f < 64
  · rw [if_pos h, Nat.testBit_div_two_pow, show (ones e / 2) = ones e / 2 ^ 1 from rfl, Nat.testBit_div_two_pow, ones_bit]
    have h1 : f ≤ j + 64 := by omega
    have h2 : j + (63 - f) + 1 = j + 64 - f := by omega
    rw [h2]
    simp [h1]
  · rw [if_neg h]
    by_cases h' : f < 128
    · rw [if_pos h', show 18446744073709551616 = 2 ^ 64 from rfl, Nat.testBit_mod_two_pow, Nat.testBit_mul_two_pow, ones_bit]
      have h1 : (f - 64 ≤ j) = (f ≤ j + 64) := by simp
      by_cases h3 : f ≤ j + 64
      · have h2 : j - (f - 64) = j + 64 - f := by omega
        rw [h2]
        simp [hj, h1]
      · have : ¬ f - 64 ≤ j := by omega
        simp [h3, this]
    · rw [if_neg h']
      have : ¬ f ≤ j + 64 := by omega
      simp [this]

theorem bit_low (n j : Nat) (hj : j < 64) : (decide (n < 64) && decide (n = j)) = decide (j = n) := by
  by_cases h : n = j
  · subst h; simp [hj]
  · have : ¬ j = n := fun e => h e.symm
    simp [h, this]
theorem bit_sym (n j : Nat) : decide (n = j + 64) = decide (j + 64 = n) := by
  by_cases h : n = j + 64
  · rw [decide_eq_true h, decide_eq_true h.symm]
  · rw [decide_eq_false h, decide_eq_false (fun e => h e.symm)]

/-- The code's two words. -/
def nanLo (e f : Nat) (neg : Bool) : Nat := if neg then setLo (setLo (shlLo (ones e) f) (sub1 f)) (addW e f) else setLo (shlLo (ones e) f) (sub1 f)
def nanHi (e f : Nat) (neg : Bool) : Nat := if neg then setHi (setHi (shlHi (ones e) f) (sub1 f)) (addW e f) else setHi (shlHi (ones e) f) (sub1 f)

theorem high_false {x j : Nat} (h : x < 18446744073709551616) (hj : 64 ≤ j) : x.testBit j = false :=
  Nat.testBit_lt_two_pow (Nat.lt_of_lt_of_le h (Nat.pow_le_pow_right (by decide) hj : 2 ^ 64 ≤ 2 ^ j))

theorem lo_eq (e f : Nat) (neg : Bool) : nanLo e f neg = loN (onB e f neg) 128 := by
  apply Nat.eq_of_testBit_eq
  intro j
  rw [loN_bit]
  by_cases hj : j < 64
  · have h128 : j < 128 := by omega
    have key : (nanLo e f neg).testBit j = onB e f neg j := by
      unfold nanLo
      cases neg
      · simp only [Bool.false_eq_true, if_false, setLo, Nat.testBit_or, shlLo_bit e f j hj, sh1_bit, onB, Bool.false_and, Bool.or_false, bit_low _ j hj]
      · simp only [if_true, setLo, Nat.testBit_or, shlLo_bit e f j hj, sh1_bit, onB, Bool.true_and, bit_low _ j hj]
    rw [key]
    simp [hj, h128]
  · have hlt : nanLo e f neg < 18446744073709551616 := by
      unfold nanLo
      cases neg
      · exact setLo_lt shlLo_lt
      · exact setLo_lt (setLo_lt shlLo_lt)
    rw [high_false hlt (by omega)]
    simp [hj]

theorem hi_eq (e f : Nat) (neg : Bool) : nanHi e f neg = hiN (onB e f neg) 128 := by
  apply Nat.eq_of_testBit_eq
  intro j
  rw [hiN_bit]
  have hs : sub1 f < 18446744073709551616 := Nat.mod_lt _ (by decide)
  have ha : addW e f < 18446744073709551616 := Nat.mod_lt _ (by decide)
  by_cases hj : j < 64
  · have h128 : j + 64 < 128 := by omega
    have key : (nanHi e f neg).testBit j = onB e f neg (j + 64) := by
      unfold nanHi
      cases neg
      · simp only [Bool.false_eq_true, if_false, setHi, Nat.testBit_or, shlHi_bit e f j hj, sh1_hi _ j hs hj, onB, Bool.false_and, Bool.or_false, bit_sym]
      · simp only [if_true, setHi, Nat.testBit_or, shlHi_bit e f j hj, sh1_hi _ j hs hj, sh1_hi _ j ha hj, onB, Bool.true_and, bit_sym]
    rw [key]
    simp [h128]
  · have hlt : nanHi e f neg < 18446744073709551616 := by
      unfold nanHi
      cases neg
      · exact setHi_lt (shlHi_lt (ones_lt e))
      · exact setHi_lt (setHi_lt (shlHi_lt (ones_lt e)))
    rw [high_false hlt (by omega)]
    have : ¬ j + 64 < 128 := by omega
    simp [this]
end Go.Proofs.YbulkecriDoor
