import Derived.Test.YbulkecpsFmtClose
import Derived.Test.YbulkecpsFmtUvar
import Derived.StillTailTactics
import Derived.Deep.CutRange
import Derived.Laws.OwnMore
namespace Go.Proofs.YbulkecpsFmt
open Go.ChangeShapes Go.WideShapes Go.ChangeAt Go.RowKit
set_option maxRecDepth 100000

/-- A box of one cell of another type is not the chunk's row. -/
theorem WAt.row_ne {w : World} {c : Nat} {s : St} {bs : List Nat} {free h0 h1 N g cap q : Nat} {cs : Array Value} {t : TypeId} (h : WAt w c s bs free h0 h1 N g cap) (hq : w.heap[q]? = some (.cells cs t (0, 0))) (ht : t ≠ 5) : q ≠ g := by
  intro e
  subst e
  rcases h.own.2 with ⟨h', _⟩ | ⟨g', cap', cur, h', _, hg, _⟩
  · simp at h'
  · simp only [Value.slice.injEq, Option.some.injEq, Addr.mk.injEq, and_true, true_and] at h'
    obtain ⟨rfl, rfl⟩ := h'
    rw [hq] at hg
    simp at hg
    exact ht hg.2
theorem WAt.box_ne {w : World} {c : Nat} {s : St} {bs : List Nat} {free h0 h1 N g cap q : Nat} {cs : Array Value} {t : TypeId} (h : WAt w c s bs free h0 h1 N g cap) (hq : w.heap[q]? = some (.cells cs t (0, 0))) (ht : t ≠ 42) : q ≠ c := by
  intro e
  subst e
  rw [h.blk] at hq
  simp at hq
  exact ht hq.2.symm
theorem mixed : Ybaf.prog.follows .mixedOrders = true := by kernel_rfl
theorem w64' (x : Int) : wrap64 x = (x + 9223372036854775808) % 18446744073709551616 - 9223372036854775808 := by
  unfold wrap64
  rfl
theorem wrap64_nat (x : Nat) (h : x ≤ 1000000000) : wrap64 (x : Int) = (x : Int) := by rw [w64']; omega
theorem i64_nat (x : Nat) (h : x ≤ 1000000000) : IntKind.i64.wrap (x : Int) = (x : Int) := by rw [IntKind.wrap_i64]; omega
structure Hid9 (M e : Nat) : Prop where
  m : M ≤ 1000000000
  e : e ≤ 1000000000
theorem WAt.bound {w : World} {c v n j : Nat} {s : St} {bs : List Nat} {free h0 h1 N g cap : Nat} {r : List Nat} (h : WAt w c s r free h0 h1 N g cap) (hr : r ++ bitsOf v j = bs ++ bitsOf v n) (hf : free ≤ 8) (hn : n ≤ 64) (hL : bs.length ≤ 900000000) : N ≤ 900000000 ∧ r.length ≤ 900000064 := by
  have h1 := h.len
  have h2 := congrArg List.length hr
  simp only [List.length_append, bitsOf_length] at h2
  omega
theorem WAt.last {w : World} {c : Nat} {s : St} {free h0 h1 N g cap M : Nat} {r : List Nat} (h : WAt w c s r free h0 h1 N g cap) (hM : N = M + 1) (hf0 : 0 < free) (hf : free ≤ 8) (hal : (r.length + free) % 8 = 0) :
    w.cell? ⟨g, M, none⟩ = some (.int .u8 (byteAt r (r.length / 8) : Nat)) := by
  have h1 := h.len
  have h2 : (r.length + free) / 8 = r.length / 8 + 1 := by omega
  have hMr : M = 2 + r.length / 8 := by omega
  rw [h.own.cellAt M (by omega), u8s_get, hMr, enc_get _ _ _ _ _ (by omega)]
  rfl
/-- One round's two stores. -/
theorem WAt.push {w : World} {c : Nat} {s : St} {f h0 h1 N g cap M k x e : Nat} {r : List Nat} (h : WAt w c s r f h0 h1 N g cap) (hM : N = M + 1) (hf0 : 0 < f) (hf : f ≤ 8) (hal : (r.length + f) % 8 = 0) (he : f = e + k) (hx : x < 2 ^ k) :
    WAt ((w.setCell ⟨g, M, none⟩ (.int .u8 ((byteAt r (r.length / 8) ||| x * 2 ^ e : Nat) : Int))).setCell ⟨c, 1, none⟩ (.int .i64 e)) c s (r ++ bitsOf x k) e h0 h1 N g cap where
  blk := (blk_set ((blk_other h.ne.symm _ _).trans h.blk) 1 _).trans rfl
  own := by
    have hs1 := (h.own.stored M (.int .u8 ((byteAt r (r.length / 8) ||| x * 2 ^ e : Nat) : Int))).1
    have h2 := enc_push h0 h1 r f k x hf hf0 hal (by omega) hx
    rw [show f - k = e by omega] at h2
    rw [u8s_set] at hs1
    have h3 := h.len
    rw [h2, show 1 + (r.length + f) / 8 = M by omega]
    exact own_other hs1 (by simp [Value.ownBlock]; exact h.ne) _
  len := by
    have h3 := h.len
    rw [List.length_append, bitsOf_length]
    rw [show r.length + k + e = r.length + f by omega]
    exact h3
theorem St.put_n (s : St) (v n : Nat) : ∀ sl f, ccells (s.put v n) sl f = ccells s sl f := fun _ _ => rfl
theorem WAt.put_done {w : World} {c v n : Nat} {s : St} {f h0 h1 N g cap : Nat} {r : List Nat} (h : WAt w c s r f h0 h1 N g cap) (hr : r = s.bs ++ bitsOf v n) (hf : f = freeOf (s.bs.length + n) (openOf n (s.bs.length + n))) :
    WAt w c (s.put v n) (s.put v n).bs (s.put v n).free h0 h1 N g cap := by
  have e : (s.put v n).free = f := by
    rw [hf]
    unfold St.free
    rw [St.put_length]
    rfl
  rw [e]
  subst hr
  exact ⟨h.blk, h.own, h.len⟩
theorem freeOf_shut {L f : Nat} (hal : (L + f) % 8 = 0) (hf : f ≤ 7) : f = freeOf L false := by
  unfold freeOf
  simp
  omega
theorem mask_eq (v i k : Nat) (hv : v < 18446744073709551616) (hk : k ≤ 8) : bits BinOp.and IntKind.u64 ((v : Int) / 2 ^ i) (IntKind.u64.wrap (IntKind.u64.wrap (2 ^ k) - 1)) % 256 = ((v / 2 ^ i % 2 ^ k : Nat) : Int) := by
  have h2 : (2 : Int) ^ k = ((2 ^ k : Nat) : Int) := by rw [Int.natCast_pow]; rfl
  have h3 : (2 : Int) ^ i = ((2 ^ i : Nat) : Int) := by rw [Int.natCast_pow]; rfl
  have h4 : 2 ^ k ≤ 2 ^ 8 := Nat.pow_le_pow_right (by decide) hk
  have h5 : 0 < 2 ^ k := Nat.two_pow_pos k
  have h6 : v / 2 ^ i % 2 ^ k < 2 ^ k := Nat.mod_lt _ h5
  have h7 : v / 2 ^ i < 18446744073709551616 := Nat.lt_of_le_of_lt (Nat.div_le_self _ _) hv
  rw [h2, h3, ← Int.natCast_ediv]
  have h8 : IntKind.u64.wrap (IntKind.u64.wrap ((2 ^ k : Nat) : Int) - 1) = ((2 ^ k - 1 : Nat) : Int) := by
    rw [IntKind.wrap_u64, IntKind.wrap_u64]
    generalize 2 ^ k = P at h4 h5
    omega
  rw [h8, bits_and_u64_nat _ _ h7 (by generalize 2 ^ k = P at h4 h5; omega), Nat.and_two_pow_sub_one_eq_mod]
  generalize v / 2 ^ i % 2 ^ k = X at h6
  generalize 2 ^ k = P at h4 h6
  omega

theorem or_eq (B x e k : Nat) (hB : B < 256) (hx : x < 2 ^ k) (he : e < 8) (hek : e + k ≤ 8) : bits BinOp.or IntKind.u8 (B : Int) ((x : Int) * 2 ^ min e 8 % 256) = ((B ||| x * 2 ^ e : Nat) : Int) := by
  have h2 : (2 : Int) ^ e = ((2 ^ e : Nat) : Int) := by rw [Int.natCast_pow]; rfl
  have h3 : x * 2 ^ e < 256 := by
    have h4 : x * 2 ^ e < 2 ^ k * 2 ^ e := Nat.mul_lt_mul_of_pos_right hx (Nat.two_pow_pos _)
    rw [← Nat.pow_add] at h4
    exact Nat.lt_of_lt_of_le h4 (Nat.pow_le_pow_right (n := 2) (j := 8) (by decide) (by omega))
  rw [show min e 8 = e by omega, h2, ← Int.natCast_mul]
  generalize x * 2 ^ e = y at h3
  rw [show ((y : Nat) : Int) % 256 = ((y : Nat) : Int) by omega]
  exact (bits_nat .u8 8 (by decide) wraps_u8 B y hB h3).2

/-- 'wp_region_still_tail', the world written by 'drew'. -/
theorem region_tail {P : Program} {id : Nat} {Q : Exit → Act → World → Prop} {a : Act} {w : World} {l : List Oper} (n : Nat) (hm : P.follows .mixedOrders = true) (hB : Region.lexTailB .any l.toArray n = true)
    (h : wpStill P l.toArray w.drew (fun a' => wpList P l.toArray Q (l.drop n) a' w.drew) (l.take n) a) : (Code.region id l.toArray true).wp P Q a w := wp_region_still_tail n hm hB h
theorem Step.drewN {F F' : Nat → Prop} {a b : World} (h : Step F a F' b) (n : Nat) : Step F a F' (b.drewN n) := ⟨h.os, h.tape, h.output, h.size, h.block, h.foot⟩
end Go.Proofs.YbulkecpsFmt
