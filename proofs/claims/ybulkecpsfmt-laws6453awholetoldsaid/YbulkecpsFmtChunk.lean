import Derived.Test.YbulkecpsFmtPut
import Derived.Defers
import Derived.Recover
import Derived.Deep.RegionHeldLaw
namespace Go.Proofs.YbulkecpsFmt
open Go.ChangeShapes Go.WideShapes Go.ChangeAt Go.RowKit
set_option maxRecDepth 100000

/-- The chunk's struct, with whatever slice and free bits. -/
def ccells (s : St) (sl : Value) (free : Nat) : Array Value := #[sl, .int .i64 free, .int .u16 s.n, .int .i64 s.t0, .int .i64 s.t, .int .i64 s.td, .int .u64 s.v, .int .i64 s.lead, .int .i64 s.trail, .bool s.set]
/-- The chunk, its stream bs, 'free' bits of the last byte not yet written, the count's bytes h0, h1; N bytes in block g. -/
structure WAt (w : World) (c : Nat) (s : St) (bs : List Nat) (free h0 h1 N g cap : Nat) : Prop where
  blk : w.heap[c]? = some (.cells (ccells s (.slice (some ⟨g, 0, none⟩) N cap) free) 42 (0, 0))
  own : w.ownsRow 0 5 1 (.slice (some ⟨g, 0, none⟩) N cap) N (u8s (enc h0 h1 bs free))
  len : N = 2 + (bs.length + free) / 8
def wfoot (c g : Nat) : Nat → Prop := fun k => k = c ∨ k = g

theorem WAt.ne {w : World} {c : Nat} {s : St} {bs : List Nat} {free h0 h1 N g cap : Nat} (h : WAt w c s bs free h0 h1 N g cap) : g ≠ c := by
  intro e
  subst e
  rcases h.own.2 with ⟨h', _⟩ | ⟨g', cap', cur, h', _, hg, _⟩
  · simp at h'
  · simp only [Value.slice.injEq, Option.some.injEq, Addr.mk.injEq, and_true, true_and] at h'
    obtain ⟨rfl, rfl⟩ := h'
    rw [h.blk] at hg
    simp at hg
theorem WAt.lt {w : World} {c : Nat} {s : St} {bs : List Nat} {free h0 h1 N g cap : Nat} (h : WAt w c s bs free h0 h1 N g cap) : ∀ k, wfoot c g k → k < w.heap.size := by
  intro k hk
  rcases hk with rfl | rfl
  · exact (Array.getElem?_eq_some_iff.1 h.blk).1
  · exact (h.own.lt k rfl).2
theorem WAt.of_block {w w' : World} {c : Nat} {s : St} {bs : List Nat} {free h0 h1 N g cap : Nat} (h : WAt w c s bs free h0 h1 N g cap) (hb : ∀ k, wfoot c g k → w'.heap[k]? = w.heap[k]?) : WAt w' c s bs free h0 h1 N g cap := by
  refine ⟨(hb c (.inl rfl)).trans h.blk, ⟨h.own.1, ?_⟩, h.len⟩
  rcases h.own.2 with hn | ⟨g', cap', cur, e, h0, hg, rest⟩
  · exact .inl hn
  · refine .inr ⟨g', cap', cur, e, h0, ?_, rest⟩
    simp only [Value.slice.injEq, Option.some.injEq, Addr.mk.injEq, and_true, true_and] at e
    obtain ⟨rfl, rfl⟩ := e
    exact (hb g (.inr rfl)).trans hg
theorem WAt.alloc {w : World} {c : Nat} {s : St} {bs : List Nat} {free h0 h1 N g cap : Nat} (h : WAt w c s bs free h0 h1 N g cap) (o : Obj) : WAt (w.alloc o) c s bs free h0 h1 N g cap := h.of_block fun k hk => Below.heap_alloc _ _ _ (h.lt k hk)
theorem WAt.drew {w : World} {c : Nat} {s : St} {bs : List Nat} {free h0 h1 N g cap : Nat} (h : WAt w c s bs free h0 h1 N g cap) : WAt w.drew c s bs free h0 h1 N g cap := h.of_block fun _ _ => rfl
theorem WAt.drewN {w : World} {c : Nat} {s : St} {bs : List Nat} {free h0 h1 N g cap : Nat} (h : WAt w c s bs free h0 h1 N g cap) (n : Nat) : WAt (w.drewN n) c s bs free h0 h1 N g cap := h.of_block fun _ _ => rfl
end Go.Proofs.YbulkecpsFmt
