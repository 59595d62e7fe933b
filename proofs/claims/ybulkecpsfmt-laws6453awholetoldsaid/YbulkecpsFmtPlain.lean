import Derived.Lib.Varint
import Derived.Lib.TrailingZeros
import Derived.Lib.ItoaNum
namespace Go.Proofs.YbulkecpsFmt

/-- The low n bits of v, highest first. -/
def bitsOf (v : Nat) : Nat → List Nat
  | 0 => []
  | n + 1 => (v / 2 ^ n % 2) :: bitsOf v n

theorem bitsOf_length (v n : Nat) : (bitsOf v n).length = n := by
  induction n with
  | zero => rfl
  | succ n ih => simp [bitsOf, ih]

theorem bitsOf_add (v k m : Nat) : bitsOf v (k + m) = bitsOf (v / 2 ^ m) k ++ bitsOf v m := by
  induction k with
  | zero => simp [bitsOf]
  | succ k ih =>
    rw [show k + 1 + m = (k + m) + 1 by omega]
    simp only [bitsOf, ih, List.cons_append]
    rw [Nat.div_div_eq_div_mul, ← Nat.pow_add, Nat.add_comm m k]

theorem bitsOf_mod (v k j : Nat) (h : k ≤ j) : bitsOf (v % 2 ^ j) k = bitsOf v k := by
  induction k with
  | zero => rfl
  | succ k ih =>
    simp only [bitsOf]
    rw [ih (by omega)]
    congr 1
    have hj : 2 ^ j = 2 ^ k * (2 * 2 ^ (j - k - 1)) := by
      rw [← Nat.pow_succ', ← Nat.pow_add]
      congr 1
      omega
    rw [hj, Nat.mod_mul_right_div_self, Nat.mod_mul_right_mod]

theorem bitsOf_le (v n : Nat) : ∀ b ∈ bitsOf v n, b ≤ 1 := by
  induction n with
  | zero => intro b hb; cases hb
  | succ n ih =>
    intro b hb
    rcases List.mem_cons.1 hb with rfl | hb
    · omega
    · exact ih b hb

/-- The i-th byte of the stream; a bit that is not there is 0. -/
def byteAt (bs : List Nat) (i : Nat) : Nat :=
  bs.getD (8 * i) 0 * 128 + bs.getD (8 * i + 1) 0 * 64 + bs.getD (8 * i + 2) 0 * 32 + bs.getD (8 * i + 3) 0 * 16 + bs.getD (8 * i + 4) 0 * 8 + bs.getD (8 * i + 5) 0 * 4 + bs.getD (8 * i + 6) 0 * 2 + bs.getD (8 * i + 7) 0

theorem getD_snoc (bs : List Nat) (b j : Nat) : (bs ++ [b]).getD j 0 = if j = bs.length then b else bs.getD j 0 := by
  simp only [List.getD_eq_getElem?_getD, List.getElem?_append]
  split
  · rw [if_neg (by omega)]
  · rename_i h
    by_cases e : j = bs.length
    · simp [e]
    · rw [if_neg e, List.getElem?_eq_none (by simp; omega), List.getElem?_eq_none (by omega)]

theorem getD_past (bs : List Nat) (j : Nat) (h : bs.length ≤ j) : bs.getD j 0 = 0 := by
  simp [List.getD_eq_getElem?_getD, List.getElem?_eq_none h]

/-- One bit more. -/
theorem byteAt_snoc (bs : List Nat) (b i : Nat) : byteAt (bs ++ [b]) i = byteAt bs i + if i = bs.length / 8 then b * 2 ^ (7 - bs.length % 8) else 0 := by
  simp only [byteAt, getD_snoc]
  by_cases hi : i = bs.length / 8
  · rw [if_pos hi]
    have e : bs.length = 8 * i + bs.length % 8 := by omega
    have hr : bs.length % 8 < 8 := Nat.mod_lt _ (by decide)
    generalize bs.length % 8 = r at e hr
    have z : bs.getD (8 * i + r) 0 = 0 := getD_past _ _ (by omega)
    rw [e]
    match r, hr, z with
    | 0, _, z => simp at z ⊢; omega
    | 1, _, z => simp at z ⊢; omega
    | 2, _, z => simp at z ⊢; omega
    | 3, _, z => simp at z ⊢; omega
    | 4, _, z => simp at z ⊢; omega
    | 5, _, z => simp at z ⊢; omega
    | 6, _, z => simp at z ⊢; omega
    | 7, _, z => simp at z ⊢; omega
  · rw [if_neg hi, if_neg (by omega), if_neg (by omega), if_neg (by omega), if_neg (by omega), if_neg (by omega), if_neg (by omega), if_neg (by omega), if_neg (by omega)]
    rfl

/-- k bits more, within the open byte. -/
theorem byteAt_bits (bs : List Nat) (i : Nat) : ∀ (k x : Nat), x < 2 ^ k → bs.length % 8 + k ≤ 8 →
    byteAt (bs ++ bitsOf x k) i = byteAt bs i + if i = bs.length / 8 then x * 2 ^ (8 - bs.length % 8 - k) else 0
  | 0, x, hx, _ => by
    have : x = 0 := by simpa using hx
    subst this
    simp [bitsOf]
  | k + 1, x, hx, hk => by
    rw [bitsOf_add x k 1, ← List.append_assoc]
    have e1 : bitsOf x 1 = [x % 2] := by simp [bitsOf]
    rw [e1, byteAt_snoc, byteAt_bits bs i k (x / 2 ^ 1) (by rw [Nat.pow_succ] at hx; simp only [Nat.pow_one]; omega) (by omega)]
    have el : (bs ++ bitsOf (x / 2 ^ 1) k).length = bs.length + k := by rw [List.length_append, bitsOf_length]
    rw [el]
    have ed : (bs.length + k) / 8 = bs.length / 8 := by omega
    rw [ed]
    by_cases hi : i = bs.length / 8
    · rw [if_pos hi, if_pos hi, if_pos hi, Nat.add_assoc]
      congr 1
      have em : (bs.length + k) % 8 = bs.length % 8 + k := by omega
      rw [em, show 8 - bs.length % 8 - k = (7 - (bs.length % 8 + k)) + 1 by omega, show 8 - bs.length % 8 - (k + 1) = 7 - (bs.length % 8 + k) by omega, Nat.pow_succ 2 (7 - (bs.length % 8 + k))]
      generalize 2 ^ (7 - (bs.length % 8 + k)) = p
      have ex : x = x / 2 ^ 1 * 2 + x % 2 := by simp only [Nat.pow_one]; omega
      rw [show x / 2 ^ 1 * (p * 2) = x / 2 ^ 1 * 2 * p by rw [Nat.mul_comm p 2, Nat.mul_assoc], ← Nat.add_mul, ← ex]
    · rw [if_neg hi, if_neg hi, if_neg hi]

/-- The open byte's low bits are 0. -/
theorem byteAt_low (bs : List Nat) : 2 ^ (8 - bs.length % 8) ∣ byteAt bs (bs.length / 8) := by
  have e : bs.length = 8 * (bs.length / 8) + bs.length % 8 := by omega
  have hr : bs.length % 8 < 8 := Nat.mod_lt _ (by decide)
  generalize bs.length / 8 = i at e
  generalize bs.length % 8 = r at e hr
  have z : ∀ j, r ≤ j → bs.getD (8 * i + j) 0 = 0 := fun j hj => getD_past _ _ (by omega)
  unfold byteAt
  have z0 := z 0; have z1 := z 1; have z2 := z 2; have z3 := z 3; have z4 := z 4; have z5 := z 5; have z6 := z 6; have z7 := z 7
  rw [Nat.add_zero] at z0
  generalize bs.getD (8 * i) 0 = a0 at *
  generalize bs.getD (8 * i + 1) 0 = a1 at *
  generalize bs.getD (8 * i + 2) 0 = a2 at *
  generalize bs.getD (8 * i + 3) 0 = a3 at *
  generalize bs.getD (8 * i + 4) 0 = a4 at *
  generalize bs.getD (8 * i + 5) 0 = a5 at *
  generalize bs.getD (8 * i + 6) 0 = a6 at *
  generalize bs.getD (8 * i + 7) 0 = a7 at *
  apply Nat.dvd_of_mod_eq_zero
  match r, hr with
  | 0, _ => simp at *; omega
  | 1, _ => simp at *; omega
  | 2, _ => simp at *; omega
  | 3, _ => simp at *; omega
  | 4, _ => simp at *; omega
  | 5, _ => simp at *; omega
  | 6, _ => simp at *; omega
  | 7, _ => simp at *; omega

theorem getD_le (bs : List Nat) (h : ∀ b ∈ bs, b ≤ 1) (j : Nat) : bs.getD j 0 ≤ 1 := by
  rw [List.getD_eq_getElem?_getD]
  rcases Nat.lt_or_ge j bs.length with hj | hj
  · rw [List.getElem?_eq_getElem hj]; exact h _ (List.getElem_mem hj)
  · rw [List.getElem?_eq_none hj]; simp

theorem byteAt_lt (bs : List Nat) (h : ∀ b ∈ bs, b ≤ 1) (i : Nat) : byteAt bs i < 256 := by
  unfold byteAt
  have h0 := getD_le bs h (8 * i); have h1 := getD_le bs h (8 * i + 1); have h2 := getD_le bs h (8 * i + 2); have h3 := getD_le bs h (8 * i + 3)
  have h4 := getD_le bs h (8 * i + 4); have h5 := getD_le bs h (8 * i + 5); have h6 := getD_le bs h (8 * i + 6); have h7 := getD_le bs h (8 * i + 7)
  omega

/-- The chunk's bytes: the two of the count, then the stream's, with 'free' bits of the last one not yet written. -/
def enc (h0 h1 : Nat) (bs : List Nat) (free : Nat) : List Nat := h0 :: h1 :: (List.range ((bs.length + free) / 8)).map (byteAt bs)

theorem enc_length (h0 h1 : Nat) (bs : List Nat) (free : Nat) : (enc h0 h1 bs free).length = 2 + (bs.length + free) / 8 := by
  simp [enc]; omega

theorem enc_get (h0 h1 : Nat) (bs : List Nat) (free i : Nat) (h : i < (bs.length + free) / 8) : (enc h0 h1 bs free)[2 + i]? = some (byteAt bs i) := by
  rw [show 2 + i = i + 1 + 1 by omega]
  simp [enc, h]

/-- A byte is opened. -/
theorem enc_open (h0 h1 : Nat) (bs : List Nat) (h : bs.length % 8 = 0) : enc h0 h1 bs 8 = enc h0 h1 bs 0 ++ [0] := by
  have e : (bs.length + 8) / 8 = (bs.length + 0) / 8 + 1 := by omega
  unfold enc
  rw [e, List.range_succ]
  simp only [List.map_append, List.map_cons, List.map_nil, List.cons_append]
  have z : byteAt bs ((bs.length + 0) / 8) = 0 := by
    unfold byteAt
    rw [getD_past _ _ (by omega), getD_past _ _ (by omega), getD_past _ _ (by omega), getD_past _ _ (by omega), getD_past _ _ (by omega), getD_past _ _ (by omega), getD_past _ _ (by omega), getD_past _ _ (by omega)]
  rw [z]

/-- k bits are written into the open byte. -/
theorem enc_push (h0 h1 : Nat) (bs : List Nat) (free k x : Nat) (hf : free ≤ 8) (h0f : 0 < free) (hal : (bs.length + free) % 8 = 0) (hk : k ≤ free) (hx : x < 2 ^ k) :
    enc h0 h1 (bs ++ bitsOf x k) (free - k) = (enc h0 h1 bs free).set (1 + (bs.length + free) / 8) (byteAt bs (bs.length / 8) ||| x * 2 ^ (free - k)) := by
  have hr : 8 - bs.length % 8 = free := by omega
  have hq : (bs.length + free) / 8 = bs.length / 8 + 1 := by omega
  apply List.ext_getElem?
  intro j
  have hlen : ((bs ++ bitsOf x k).length + (free - k)) / 8 = (bs.length + free) / 8 := by
    rw [List.length_append, bitsOf_length]; congr 1; omega
  rw [List.getElem?_set]
  unfold enc
  rw [hlen, hq]
  match j with
  | 0 => simp
  | 1 => simp
  | j + 2 =>
    simp only [List.getElem?_cons_succ, List.length_cons, List.length_map, List.length_range]
    by_cases hj : j < bs.length / 8 + 1
    · rw [List.getElem?_map, List.getElem?_range hj, List.getElem?_map, List.getElem?_range hj]
      simp only [Option.map_some]
      rw [byteAt_bits bs j k x hx (by omega)]
      by_cases e : j = bs.length / 8
      · subst e
        rw [if_pos rfl, if_pos (by omega), if_pos (by omega)]
        congr 1
        rw [show 8 - bs.length % 8 - k = free - k by omega]
        obtain ⟨q, hq2⟩ := byteAt_low bs
        rw [hr] at hq2
        rw [hq2]
        refine Nat.two_pow_add_eq_or_of_lt ?_ q
        have : 2 ^ free = 2 ^ k * 2 ^ (free - k) := by rw [← Nat.pow_add]; congr 1; omega
        rw [this]
        exact Nat.mul_lt_mul_of_pos_right hx (Nat.two_pow_pos _)
      · rw [if_neg e, if_neg (by omega)]
        rfl
    · rw [if_neg (by omega), List.getElem?_eq_none (by simp; omega), List.getElem?_eq_none (by simp; omega)]

/-- What is put there is a byte. -/
theorem push_lt (bs : List Nat) (hb : ∀ b ∈ bs, b ≤ 1) (free k x : Nat) (hf : free ≤ 8) (hk : k ≤ free) (hx : x < 2 ^ k) : (byteAt bs (bs.length / 8) ||| x * 2 ^ (free - k)) < 256 := by
  refine Nat.or_lt_two_pow (n := 8) (byteAt_lt bs hb _) ?_
  have h1 : x * 2 ^ (free - k) < 2 ^ k * 2 ^ (free - k) := Nat.mul_lt_mul_of_pos_right hx (Nat.two_pow_pos _)
  rw [← Nat.pow_add] at h1
  exact Nat.lt_of_lt_of_le h1 (Nat.pow_le_pow_right (by decide) (by omega))

/-- A chunk's state, the stream as bits. -/
structure St where
  bs : List Nat
  opn : Bool
  n : Nat
  t0 : Int
  t : Int
  td : Int
  v : Nat
  lead : Nat
  trail : Nat
  set : Bool

def St.init : St := ⟨[], false, 0, 0, 0, 0, 0, 0, 0, false⟩
def openOf (n l : Nat) : Bool := decide (n % 8 = 0) && decide (l % 8 = 0)
def freeOf (l : Nat) (o : Bool) : Nat := if o then 8 else (8 - l % 8) % 8
def St.free (s : St) : Nat := freeOf s.bs.length s.opn
/-- n bits (n at least 1) are put. -/
def St.put (s : St) (v n : Nat) : St := { s with bs := s.bs ++ bitsOf v n, opn := openOf n (s.bs.length + n) }
def St.putAll (s : St) (l : List UInt8) : St := l.foldl (fun s b => s.put b.toNat 8) s
def lzOf (x : Nat) : Nat := min (64 - Lib.bitLen x) 31
def St.value (s : St) (vb : Nat) : St :=
  if vb ^^^ s.v = 0 then s.put 0 1
  else if s.set = true ∧ s.lead ≤ lzOf (vb ^^^ s.v) ∧ s.trail ≤ Lib.ctz 64 (vb ^^^ s.v) then (s.put 2 2).put ((vb ^^^ s.v) / 2 ^ s.trail) (64 - s.lead - s.trail)
  else { ((((s.put 3 2).put (lzOf (vb ^^^ s.v)) 5).put (64 - lzOf (vb ^^^ s.v) - Lib.ctz 64 (vb ^^^ s.v)) 6).put ((vb ^^^ s.v) / 2 ^ Lib.ctz 64 (vb ^^^ s.v)) (64 - lzOf (vb ^^^ s.v) - Lib.ctz 64 (vb ^^^ s.v))) with
    lead := lzOf (vb ^^^ s.v), trail := Lib.ctz 64 (vb ^^^ s.v), set := true }
def u64 (d : Int) : Nat := (d % 18446744073709551616).toNat
def i64 (d : Int) : Int := IntKind.i64.wrap d
def St.dod (s : St) (d : Int) : St :=
  if d = 0 then s.put 0 1
  else if -8191 ≤ d ∧ d ≤ 8192 then (s.put 2 2).put (u64 d) 14
  else if -65535 ≤ d ∧ d ≤ 65536 then (s.put 6 3).put (u64 d) 17
  else if -524287 ≤ d ∧ d ≤ 524288 then (s.put 14 4).put (u64 d) 20
  else (s.put 15 4).put (u64 d) 64
def St.kind (s : St) (t : Int) : Int := if s.n = 65535 then 1 else if 0 < s.n ∧ t ≤ s.t then 2 else 0
def St.first (s : St) (t : Int) (vb : Nat) : St := (({ s with t0 := t }).putAll (Lib.uvarint (Lib.zigzag t))).put vb 64
def St.second (s : St) (t : Int) (vb : Nat) : St := (({ s with td := i64 (t - s.t) }).putAll (Lib.uvarint (u64 (i64 (t - s.t))))).value vb
def St.later (s : St) (t : Int) (vb : Nat) : St := ({ (s.dod (i64 (i64 (t - s.t) - s.td))) with td := i64 (t - s.t) }).value vb
def St.next (s : St) (t : Int) (vb : Nat) : St :=
  if s.n = 65535 then s else if 0 < s.n ∧ t ≤ s.t then s
  else { (if s.n = 0 then s.first t vb else if s.n = 1 then s.second t vb else s.later t vb) with t := t, v := vb, n := s.n + 1 }


theorem bitLen_bounds {x : Nat} (h : x < 18446744073709551616) (h0 : x ≠ 0) : 1 ≤ Lib.bitLen x ∧ 2 ^ (Lib.bitLen x - 1) ≤ x ∧ x < 2 ^ Lib.bitLen x ∧ Lib.bitLen x ≤ 64 := by
  obtain ⟨h1, h2, h3⟩ := Lib.bitLenAux_bounds 64 x (Nat.lt_of_lt_of_le h (by decide)) h0
  refine ⟨h1, h2, h3, ?_⟩
  rcases Nat.lt_or_ge 64 (Lib.bitLen x) with h4 | h4
  · have h5 : 2 ^ 64 ≤ 2 ^ (Lib.bitLen x - 1) := Nat.pow_le_pow_right (by decide) (by omega)
    have h6 : (2 : Nat) ^ 64 = 18446744073709551616 := by decide
    have h2' : 2 ^ (Lib.bitLen x - 1) ≤ x := h2
    omega
  · exact h4
theorem lz_go {x i : Nat} (h : x < 18446744073709551616) (h0 : x ≠ 0) (hi : i < 64 - Lib.bitLen x) : x / 2 ^ (63 - i) % 2 = 0 := by
  obtain ⟨_, _, h3, _⟩ := bitLen_bounds h h0
  rw [Nat.div_eq_of_lt]
  exact Nat.lt_of_lt_of_le h3 (Nat.pow_le_pow_right (by decide) (by omega))
theorem lz_stop {x : Nat} (h : x < 18446744073709551616) (h0 : x ≠ 0) : x / 2 ^ (63 - (64 - Lib.bitLen x)) % 2 = 1 := by
  obtain ⟨h1, h2, h3, h4⟩ := bitLen_bounds h h0
  rw [show 63 - (64 - Lib.bitLen x) = Lib.bitLen x - 1 by omega]
  have e : 2 ^ Lib.bitLen x = 2 ^ (Lib.bitLen x - 1) * 2 := by rw [← Nat.pow_succ]; congr 1; omega
  rw [e] at h3
  have hp : 0 < 2 ^ (Lib.bitLen x - 1) := Nat.two_pow_pos _
  have h5 : x / 2 ^ (Lib.bitLen x - 1) < 2 := Nat.div_lt_of_lt_mul h3
  have h6 : 1 ≤ x / 2 ^ (Lib.bitLen x - 1) := (Nat.one_le_div_iff hp).2 h2
  omega
theorem ctz_form {x : Nat} (h : x < 18446744073709551616) (h0 : x ≠ 0) : ∃ m, x = 2 ^ Lib.ctz 64 x * (2 * m + 1) ∧ Lib.ctz 64 x < 64 := by
  unfold Lib.ctz
  rw [if_neg h0]
  exact Lib.ctzFrom_spec 64 x (by omega) (Nat.lt_of_lt_of_le h (by decide))
theorem tz_go {x i : Nat} (h : x < 18446744073709551616) (h0 : x ≠ 0) (hi : i < Lib.ctz 64 x) : x / 2 ^ i % 2 = 0 := by
  obtain ⟨m, hm, _⟩ := ctz_form h h0
  have e : 2 ^ Lib.ctz 64 x * (2 * m + 1) = 2 ^ i * (2 * (2 ^ (Lib.ctz 64 x - i - 1) * (2 * m + 1))) := by
    rw [← Nat.mul_assoc 2, ← Nat.pow_succ', ← Nat.mul_assoc, ← Nat.pow_add]
    congr 2
    omega
  rw [e] at hm
  generalize 2 ^ (Lib.ctz 64 x - i - 1) * (2 * m + 1) = q at hm
  rw [hm, Nat.mul_div_cancel_left _ (Nat.two_pow_pos _)]
  omega
theorem tz_stop {x : Nat} (h : x < 18446744073709551616) (h0 : x ≠ 0) : x / 2 ^ Lib.ctz 64 x % 2 = 1 := by
  obtain ⟨m, hm, _⟩ := ctz_form h h0
  have e : x / 2 ^ Lib.ctz 64 x = 2 * m + 1 := by
    conv => lhs; lhs; rw [hm]
    exact Nat.mul_div_cancel_left _ (Nat.two_pow_pos _)
  rw [e]
  omega
theorem lz_tz {x : Nat} (h : x < 18446744073709551616) (h0 : x ≠ 0) : (64 - Lib.bitLen x) + Lib.ctz 64 x ≤ 63 := by
  obtain ⟨h1, h2, h3, h4⟩ := bitLen_bounds h h0
  obtain ⟨m, hm, h5⟩ := ctz_form h h0
  have h6 : 2 ^ Lib.ctz 64 x ≤ x := by
    conv => rhs; rw [hm]
    exact Nat.le_mul_of_pos_right _ (by omega)
  have h7 : 2 ^ Lib.ctz 64 x < 2 ^ Lib.bitLen x := Nat.lt_of_le_of_lt h6 h3
  have h8 := (Nat.pow_lt_pow_iff_right (a := 2) (by decide)).1 h7
  omega
theorem lzOf_le (x : Nat) : lzOf x ≤ 31 := Nat.min_le_right _ _
theorem lzOf_tz {x : Nat} (h : x < 18446744073709551616) (h0 : x ≠ 0) : lzOf x + Lib.ctz 64 x ≤ 63 := by
  have := lz_tz h h0
  have : lzOf x ≤ 64 - Lib.bitLen x := Nat.min_le_left _ _
  omega

theorem xor_lt {a b : Nat} (ha : a < 18446744073709551616) (hb : b < 18446744073709551616) : a ^^^ b < 18446744073709551616 := Nat.xor_lt_two_pow (n := 64) ha hb
theorem u64_lt (d : Int) : u64 d < 18446744073709551616 := by unfold u64; omega

/-- What a state must be. -/
structure St.Ok (s : St) : Prop where
  bit : ∀ b ∈ s.bs, b ≤ 1
  opn : s.opn = true → s.bs.length % 8 = 0
  v : s.v < 18446744073709551616
  lead : s.lead ≤ 31
  trail : s.lead + s.trail ≤ 63

theorem freeOf_le (l : Nat) (o : Bool) : freeOf l o ≤ 8 := by
  unfold freeOf
  split <;> omega
theorem freeOf_al (l : Nat) (o : Bool) (h : o = true → l % 8 = 0) : (l + freeOf l o) % 8 = 0 := by
  unfold freeOf
  split
  · rename_i e; have := h e; omega
  · omega
theorem openOf_al {n l : Nat} (h : openOf n l = true) : l % 8 = 0 := by
  simp [openOf] at h
  exact h.2

theorem St.Ok.put {s : St} (h : s.Ok) (v n : Nat) : (s.put v n).Ok where
  bit := fun b hb => by
    rcases List.mem_append.1 hb with hb | hb
    · exact h.bit b hb
    · exact bitsOf_le _ _ b hb
  opn := fun e => by
    have := openOf_al (show openOf n (s.bs.length + n) = true from e)
    simp only [St.put, List.length_append, bitsOf_length]
    exact this
  v := h.v
  lead := h.lead
  trail := h.trail
theorem St.put_length (s : St) (v n : Nat) : (s.put v n).bs.length = s.bs.length + n := by simp [St.put, bitsOf_length]
theorem St.Ok.putAll : ∀ (l : List UInt8) {s : St}, s.Ok → (s.putAll l).Ok
  | [], _, h => h
  | b :: l, _, h => St.Ok.putAll l (h.put b.toNat 8)
theorem St.putAll_length : ∀ (l : List UInt8) (s : St), (s.putAll l).bs.length = s.bs.length + 8 * l.length
  | [], s => by simp [St.putAll]
  | b :: l, s => by
    have := St.putAll_length l (s.put b.toNat 8)
    rw [St.put_length] at this
    simp only [List.length_cons]
    rw [show s.putAll (b :: l) = (s.put b.toNat 8).putAll l from rfl, this]
    omega
theorem St.putAll_rest : ∀ (l : List UInt8) (s : St), (s.putAll l).n = s.n ∧ (s.putAll l).t0 = s.t0 ∧ (s.putAll l).t = s.t ∧ (s.putAll l).td = s.td ∧ (s.putAll l).v = s.v ∧ (s.putAll l).lead = s.lead ∧ (s.putAll l).trail = s.trail ∧ (s.putAll l).set = s.set
  | [], _ => ⟨rfl, rfl, rfl, rfl, rfl, rfl, rfl, rfl⟩
  | b :: l, s => St.putAll_rest l (s.put b.toNat 8)

theorem St.Ok.value {s : St} (h : s.Ok) {vb : Nat} (hv : vb < 18446744073709551616) : (s.value vb).Ok ∧ (s.value vb).bs.length ≤ s.bs.length + 77 := by
  have hx : vb ^^^ s.v < 18446744073709551616 := xor_lt hv h.v
  unfold St.value
  split
  · exact ⟨h.put _ _, by rw [St.put_length]; omega⟩
  · rename_i h0
    split
    · exact ⟨(h.put _ _).put _ _, by rw [St.put_length, St.put_length]; omega⟩
    · have h1 := ((((h.put 3 2).put (lzOf (vb ^^^ s.v)) 5).put (64 - lzOf (vb ^^^ s.v) - Lib.ctz 64 (vb ^^^ s.v)) 6).put ((vb ^^^ s.v) / 2 ^ Lib.ctz 64 (vb ^^^ s.v)) (64 - lzOf (vb ^^^ s.v) - Lib.ctz 64 (vb ^^^ s.v)))
      refine ⟨⟨h1.bit, h1.opn, h1.v, lzOf_le _, lzOf_tz hx h0⟩, ?_⟩
      show (St.put _ _ _).bs.length ≤ _
      rw [St.put_length, St.put_length, St.put_length, St.put_length]
      omega
theorem St.Ok.dod {s : St} (h : s.Ok) (d : Int) : (s.dod d).Ok ∧ (s.dod d).bs.length ≤ s.bs.length + 68 := by
  unfold St.dod
  split
  · exact ⟨h.put _ _, by rw [St.put_length]; omega⟩
  split
  · exact ⟨(h.put _ _).put _ _, by rw [St.put_length, St.put_length]; omega⟩
  split
  · exact ⟨(h.put _ _).put _ _, by rw [St.put_length, St.put_length]; omega⟩
  split
  · exact ⟨(h.put _ _).put _ _, by rw [St.put_length, St.put_length]; omega⟩
  · exact ⟨(h.put _ _).put _ _, by rw [St.put_length, St.put_length]; omega⟩
theorem zigzag_lt {t : Int} (h0 : -9223372036854775808 ≤ t) (h1 : t ≤ 9223372036854775807) : Lib.zigzag t < 18446744073709551616 := by
  unfold Lib.zigzag
  split <;> omega
theorem St.Ok.next {s : St} (h : s.Ok) {t : Int} {vb : Nat} (hv : vb < 18446744073709551616) (h0 : -9223372036854775808 ≤ t) (h1 : t ≤ 9223372036854775807) : (s.next t vb).Ok ∧ (s.next t vb).bs.length ≤ s.bs.length + 200 := by
  unfold St.next
  split
  · exact ⟨h, by omega⟩
  split
  · exact ⟨h, by omega⟩
  have key : ∀ r : St, r.Ok ∧ r.bs.length ≤ s.bs.length + 200 → St.Ok { r with t := t, v := vb, n := s.n + 1 } ∧ ({ r with t := t, v := vb, n := s.n + 1 } : St).bs.length ≤ s.bs.length + 200 := fun r hr => ⟨⟨hr.1.bit, hr.1.opn, hv, hr.1.lead, hr.1.trail⟩, hr.2⟩
  apply key
  split
  · have h2 : St.Ok { s with t0 := t } := ⟨h.bit, h.opn, h.v, h.lead, h.trail⟩
    refine ⟨(St.Ok.putAll _ h2).put _ _, ?_⟩
    unfold St.first
    rw [St.put_length, St.putAll_length]
    have := Lib.uvarint_length64 (zigzag_lt h0 h1)
    show s.bs.length + _ + 64 ≤ _
    omega
  split
  · have h2 : St.Ok { s with td := i64 (t - s.t) } := ⟨h.bit, h.opn, h.v, h.lead, h.trail⟩
    have h3 := (St.Ok.putAll (Lib.uvarint (u64 (i64 (t - s.t)))) h2).value hv
    refine ⟨h3.1, ?_⟩
    have h4 := h3.2
    rw [St.putAll_length] at h4
    have := Lib.uvarint_length64 (u64_lt (i64 (t - s.t)))
    have h5 : ({ s with td := i64 (t - s.t) } : St).bs.length = s.bs.length := rfl
    unfold St.second
    omega
  · have h2 := h.dod (i64 (i64 (t - s.t) - s.td))
    have h3 : St.Ok { (s.dod (i64 (i64 (t - s.t) - s.td))) with td := i64 (t - s.t) } := ⟨h2.1.bit, h2.1.opn, h2.1.v, h2.1.lead, h2.1.trail⟩
    have h4 := h3.value hv
    refine ⟨h4.1, ?_⟩
    have h5 := h4.2
    have h6 : ({ (s.dod (i64 (i64 (t - s.t) - s.td))) with td := i64 (t - s.t) } : St).bs.length = (s.dod (i64 (i64 (t - s.t) - s.td))).bs.length := rfl
    have h7 := h2.2
    unfold St.later
    omega
theorem St.Ok.init : St.init.Ok := ⟨(by intro b hb; cases hb), (by intro h; cases h), by decide, by decide, by decide⟩

/-- What blen answers. -/
theorem blen_eq (s : St) (h : s.Ok) : 2 + (s.bs.length + 7) / 8 + (if s.opn then 1 else 0) = 2 + (s.bs.length + s.free) / 8 := by
  unfold St.free freeOf
  split
  · rename_i e; have := h.opn e; omega
  · omega
end Go.Proofs.YbulkecpsFmt
