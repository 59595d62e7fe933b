import Derived.WalkKit
import Derived.ProofKit
namespace Go.Proofs.YbulkecriDoor

/-- 1<<n on a uint64. -/
def sh1 (n : Nat) : Nat := if n < 64 then 2 ^ n else 0
/-- n-64 on a uint64. -/
def sub64 (n : Nat) : Nat := (n + 18446744073709551552) % 18446744073709551616
theorem sh1_lt (n : Nat) : sh1 n < 18446744073709551616 := by
  unfold sh1
  split
  · exact Nat.lt_of_le_of_lt (Nat.pow_le_pow_right (by decide) (by omega : n ≤ 63)) (by decide)
  · decide

theorem p1 (n : Nat) : IntKind.u64.wrap (2 ^ min n 64) = ((sh1 n : Nat) : Int) := by
  unfold sh1
  rw [IntKind.wrap_u64]
  by_cases h : n < 64
  · rw [if_pos h, Nat.min_eq_left (by omega)]
    have h2 : (2 : Nat) ^ n < 18446744073709551616 := Nat.lt_of_le_of_lt (Nat.pow_le_pow_right (by decide) (by omega : n ≤ 63)) (by decide)
    have h3 : ((2 : Int) ^ n) = ((2 ^ n : Nat) : Int) := by simp
    rw [h3]
    generalize 2 ^ n = y at h2
    omega
  · rw [if_neg h, Nat.min_eq_right (by omega)]
    decide
theorem p2 (n : Nat) : (IntKind.u64.wrap ((n : Int) - 64)).toNat = sub64 n := by
  rw [IntKind.wrap_u64]
  unfold sub64
  omega
theorem p3 (a b : Nat) (ha : a < 18446744073709551616) (hb : b < 18446744073709551616) : bits .or .u64 (a : Int) (b : Int) = ((a ||| b : Nat) : Int) := u64_or_nat a b ha hb
theorem or_lt {a b : Nat} (ha : a < 18446744073709551616) (hb : b < 18446744073709551616) : a ||| b < 18446744073709551616 := Nat.or_lt_two_pow (n := 64) ha hb

/-- setBit's two words. -/
def setHi (hi n : Nat) : Nat := hi ||| sh1 (sub64 n)
def setLo (lo n : Nat) : Nat := lo ||| sh1 n
theorem setHi_lt {hi n : Nat} (h : hi < 18446744073709551616) : setHi hi n < 18446744073709551616 := or_lt h (sh1_lt _)
theorem setLo_lt {lo n : Nat} (h : lo < 18446744073709551616) : setLo lo n < 18446744073709551616 := or_lt h (sh1_lt _)
theorem setHi_eq (hi n : Nat) (h : hi < 18446744073709551616) : bits .or .u64 (hi : Int) (IntKind.u64.wrap (2 ^ min (IntKind.u64.wrap ((n : Int) - 64)).toNat 64)) = ((setHi hi n : Nat) : Int) := by
  rw [p2, p1, p3 _ _ h (sh1_lt _)]
  rfl
theorem setLo_eq (lo n : Nat) (h : lo < 18446744073709551616) : bits .or .u64 (lo : Int) (IntKind.u64.wrap (2 ^ min n 64)) = ((setLo lo n : Nat) : Int) := by
  rw [p1, p3 _ _ h (sh1_lt _)]
  rfl

/-- shl's two words, the high word 0 at the start. -/
def shlHi (lo n : Nat) : Nat := if n < 64 then lo / 2 / 2 ^ (63 - n) else if n < 128 then lo * 2 ^ (n - 64) % 18446744073709551616 else 0
def shlLo (lo n : Nat) : Nat := if n < 64 then lo * 2 ^ n % 18446744073709551616 else 0
theorem shlHi_lt {lo n : Nat} (h : lo < 18446744073709551616) : shlHi lo n < 18446744073709551616 := by
  unfold shlHi
  split
  · exact Nat.lt_of_le_of_lt (Nat.le_trans (Nat.div_le_self _ _) (Nat.div_le_self _ _)) h
  · split
    · exact Nat.mod_lt _ (by decide)
    · decide
theorem shlLo_lt {lo n : Nat} : shlLo lo n < 18446744073709551616 := by
  unfold shlLo
  split
  · exact Nat.mod_lt _ (by decide)
  · decide
/-- (1<<e) - 1. -/
def ones (e : Nat) : Nat := if e < 64 then 2 ^ e - 1 else 18446744073709551615
theorem ones_lt (e : Nat) : ones e < 18446744073709551616 := by
  unfold ones
  split
  · have := sh1_lt e
    unfold sh1 at this
    rw [if_pos ‹_›] at this
    omega
  · decide
theorem ones_eq (e : Nat) : IntKind.u64.wrap (IntKind.u64.wrap (2 ^ min e 64) - 1) = ((ones e : Nat) : Int) := by
  rw [p1, IntKind.wrap_u64]
  have h := sh1_lt e
  unfold sh1 at h ⊢
  unfold ones
  by_cases h1 : e < 64
  · rw [if_pos h1, if_pos h1] at *
    have := Nat.two_pow_pos e
    generalize 2 ^ e = y at *
    omega
  · rw [if_neg h1, if_neg h1]
    decide
/-- fracBits - 1. -/
def sub1 (n : Nat) : Nat := (n + 18446744073709551615) % 18446744073709551616
theorem sub1_eq (n : Nat) : IntKind.u64.wrap ((n : Int) - 1) = ((sub1 n : Nat) : Int) := by
  rw [IntKind.wrap_u64]; unfold sub1; omega
def addW (a b : Nat) : Nat := (a + b) % 18446744073709551616
theorem addW_eq (a b : Nat) : IntKind.u64.wrap ((a : Int) + b) = ((addW a b : Nat) : Int) := by
  rw [IntKind.wrap_u64]; unfold addW; omega
theorem shl_q1 (lo n : Nat) (h : lo < 18446744073709551616) (hn : n < 64) : bits .or .u64 0 ((lo : Int) / 2 / 2 ^ (63 - n)) = ((shlHi lo n : Nat) : Int) := by
  have e : ((lo : Int) / 2 / 2 ^ (63 - n)) = ((lo / 2 / 2 ^ (63 - n) : Nat) : Int) := by simp
  have hl := shlHi_lt (n := n) h
  unfold shlHi at hl ⊢
  rw [if_pos hn] at hl ⊢
  rw [e]
  have := p3 0 (lo / 2 / 2 ^ (63 - n)) (by decide) hl
  simpa using this
theorem shl_q2 (lo n : Nat) (hn : n < 64) : IntKind.u64.wrap ((lo : Int) * 2 ^ n) = ((shlLo lo n : Nat) : Int) := by
  have e : ((lo : Int) * 2 ^ n) = ((lo * 2 ^ n : Nat) : Int) := by simp
  unfold shlLo
  rw [if_pos hn, e, IntKind.wrap_u64]
  generalize lo * 2 ^ n = y
  omega
theorem shl_q3 (lo n : Nat) (hn : 64 ≤ n) (hn' : n < 18446744073709551616) : IntKind.u64.wrap ((lo : Int) * 2 ^ min (IntKind.u64.wrap ((n : Int) - 64)).toNat 64) = ((shlHi lo n : Nat) : Int) := by
  rw [p2]
  have e0 : sub64 n = n - 64 := by unfold sub64; omega
  unfold shlHi
  rw [if_neg (by omega), e0]
  by_cases h : n < 128
  · rw [if_pos h, Nat.min_eq_left (by omega)]
    have e : ((lo : Int) * 2 ^ (n - 64)) = ((lo * 2 ^ (n - 64) : Nat) : Int) := by simp
    rw [e, IntKind.wrap_u64]
    generalize lo * 2 ^ (n - 64) = y
    omega
  · rw [if_neg h, Nat.min_eq_right (by omega), IntKind.wrap_u64]
    have e : ((lo : Int) * 2 ^ 64) = (lo : Int) * 18446744073709551616 := rfl
    rw [e]
    omega
theorem shl_q4 (lo n : Nat) (hn : 64 ≤ n) : shlLo lo n = 0 := by unfold shlLo; rw [if_neg (by omega)]

/-- One bit of the model: the words so far. -/
def loN (on : Nat → Bool) : Nat → Nat
  | 0 => 0
  | i + 1 => if on i && decide (i < 64) then loN on i ||| 2 ^ i else loN on i
def hiN (on : Nat → Bool) : Nat → Nat
  | 0 => 0
  | i + 1 => if on i && decide (64 ≤ i) then hiN on i ||| 2 ^ (i - 64) else hiN on i
theorem loN_bit (on : Nat → Bool) (n j : Nat) : (loN on n).testBit j = (decide (j < n) && decide (j < 64) && on j) := by
  induction n with
  | zero => simp [loN]
  | succ n ih =>
    simp only [loN]
    by_cases h : (on n && decide (n < 64)) = true
    · rw [if_pos h, Nat.testBit_or, ih, Nat.testBit_two_pow]
      simp only [Bool.and_eq_true, decide_eq_true_eq] at h
      by_cases hj : n = j
      · subst hj; simp [h]
      · have : (j < n + 1) = (j < n) := by simp; omega
        simp [hj, this]
    · rw [if_neg h, ih]
      by_cases hj : j = n
      · subst hj
        simp only [Bool.and_eq_true, decide_eq_true_eq, not_and] at h
        by_cases ho : on j = true
        · have := h ho; simp [this]
        · simp [ho]
      · have : (j < n + 1) = (j < n) := by simp; omega
        simp [this]
theorem hiN_bit (on : Nat → Bool) (n j : Nat) : (hiN on n).testBit j = (decide (j + 64 < n) && on (j + 64)) := by
  induction n with
  | zero => simp [hiN]
  | succ n ih =>
    simp only [hiN]
    by_cases h : (on n && decide (64 ≤ n)) = true
    · rw [if_pos h, Nat.testBit_or, ih, Nat.testBit_two_pow]
      simp only [Bool.and_eq_true, decide_eq_true_eq] at h
      by_cases hj : n = j + 64
      · subst hj; simp [h]
      · have h1 : (j + 64 < n + 1) = (j + 64 < n) := by simp; omega
        have h2 : ¬ n - 64 = j := by omega
        simp [h1, h2]
    · rw [if_neg h, ih]
      by_cases hj : n = j + 64
      · subst hj
        simp only [Bool.and_eq_true, decide_eq_true_eq, not_and] at h
        by_cases ho : on (j + 64) = true
        · have := h ho; omega
        · simp [ho]
      · have : (j + 64 < n + 1) = (j + 64 < n) := by simp; omega
        simp [this]
theorem lt_of_bits {x : Nat} (h : ∀ j, 64 ≤ j → x.testBit j = false) : x < 18446744073709551616 := Nat.lt_pow_two_of_testBit (n := 64) x h
theorem loN_lt (on : Nat → Bool) (n : Nat) : loN on n < 18446744073709551616 := lt_of_bits fun j hj => by rw [loN_bit]; simp; omega
theorem hiN_lt (on : Nat → Bool) (n : Nat) (hn : n ≤ 128) : hiN on n < 18446744073709551616 := lt_of_bits fun j hj => by rw [hiN_bit]; simp; omega

/-- Which bits the model sets. -/
def onB (e f : Nat) (neg : Bool) (i : Nat) : Bool := (decide (f ≤ i) && decide (i - f < min e 64)) || decide (i = sub1 f) || (neg && decide (i = addW e f))
theorem lo_off {on : Nat → Bool} {k : Nat} (h : on k = false) : loN on (k + 1) = loN on k := by simp [loN, h]
theorem hi_off {on : Nat → Bool} {k : Nat} (h : on k = false) : hiN on (k + 1) = hiN on k := by simp [hiN, h]
theorem lo_far {on : Nat → Bool} {k : Nat} (h : 64 ≤ k) : loN on (k + 1) = loN on k := by
  have : ¬ k < 64 := by omega
  simp [loN, this]
theorem hi_near {on : Nat → Bool} {k : Nat} (h : k < 64) : hiN on (k + 1) = hiN on k := by
  have : ¬ 64 ≤ k := by omega
  simp [hiN, this]
theorem two_lt (k : Nat) (h : k < 64) : 2 ^ k < 18446744073709551616 := Nat.lt_of_le_of_lt (Nat.pow_le_pow_right (by decide) (by omega : k ≤ 63)) (by decide)
theorem wrap_two (k : Nat) (h : k < 64) : IntKind.u64.wrap (2 ^ k) = ((2 ^ k : Nat) : Int) := by
  have h2 := two_lt k h
  have h3 : ((2 : Int) ^ k) = ((2 ^ k : Nat) : Int) := by simp
  rw [h3, IntKind.wrap_u64]
  generalize 2 ^ k = y at h2 ⊢
  omega
theorem lo_on {on : Nat → Bool} {k : Nat} (h : on k = true) (hk : k < 64) : bits .or .u64 (loN on k : Int) (IntKind.u64.wrap (2 ^ k)) = ((loN on (k + 1) : Nat) : Int) := by
  rw [wrap_two k hk, p3 _ _ (loN_lt on k) (two_lt k hk)]
  simp [loN, h, hk]
theorem hi_on {on : Nat → Bool} {k : Nat} (h : on k = true) (hk : 64 ≤ k) (hk' : k < 128) : bits .or .u64 (hiN on k : Int) (IntKind.u64.wrap (2 ^ (k - 64))) = ((hiN on (k + 1) : Nat) : Int) := by
  rw [wrap_two _ (by omega), p3 _ _ (hiN_lt on k (by omega)) (two_lt _ (by omega))]
  simp [hiN, h, hk]
theorem onB_A {e f k : Nat} {neg : Bool} (h1 : f ≤ k) (h2 : k - f < min e 64) : onB e f neg k = true := by simp [onB, h1, h2]
theorem onB_B {e f k : Nat} {neg : Bool} (h : k = sub1 f) : onB e f neg k = true := by simp [onB, ← h]
theorem onB_C {e f k : Nat} (h : k = addW e f) : onB e f true k = true := by simp [onB, ← h]
theorem onB_D {e f k : Nat} {neg : Bool} (h1 : ¬ (f ≤ k ∧ k - f < min e 64)) (h2 : ¬ k = sub1 f) (h3 : neg = true → ¬ k = addW e f) : onB e f neg k = false := by
  have a : (decide (f ≤ k) && decide (k - f < min e 64)) = false := by
    by_cases hf : f ≤ k
    · have : ¬ k - f < min e 64 := fun h => h1 ⟨hf, h⟩
      simp [this]
    · simp [hf]
  unfold onB
  rw [a, decide_eq_false h2]
  cases neg
  · rfl
  · simp [h3 rfl]
end Go.Proofs.YbulkecriDoor
