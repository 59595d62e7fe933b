import Derived.Test.YbulkecpsFmtPlain
import Derived.Shelf.Bin.AppendVarint
import Derived.Test.YbulkecpsFmtLib
import Derived.Deep.AppendLies
namespace Go.Proofs.YbulkecpsFmt
open Go.ChangeShapes Go.WideShapes Go.ChangeAt Go.RowKit
set_option maxRecDepth 100000

/-- From w to w': only blocks of F turned; what is of F' is of F or new. -/
structure Step (F : Nat → Prop) (w : World) (F' : Nat → Prop) (w' : World) : Prop where
  os : w'.os = w.os
  tape : w'.tape = w.tape
  output : w'.output = w.output
  size : w.heap.size ≤ w'.heap.size
  block : ∀ k, k < w.heap.size → ¬ F k → w'.heap[k]? = w.heap[k]?
  foot : ∀ k, F' k → F k ∨ w.heap.size ≤ k

theorem Step.refl (F : Nat → Prop) (w : World) : Step F w F w := ⟨rfl, rfl, rfl, Nat.le_refl _, fun _ _ _ => rfl, fun _ h => .inl h⟩
theorem Step.trans {F F' F'' : Nat → Prop} {a b c : World} (h : Step F a F' b) (k : Step F' b F'' c) : Step F a F'' c where
  os := k.os.trans h.os
  tape := k.tape.trans h.tape
  output := k.output.trans h.output
  size := Nat.le_trans h.size k.size
  block := fun i hi hn => (k.block i (Nat.lt_of_lt_of_le hi h.size) (fun hf => by
    rcases h.foot i hf with h1 | h1
    · exact hn h1
    · omega)).trans (h.block i hi hn)
  foot := fun i hi => by
    rcases k.foot i hi with h1 | h1
    · exact h.foot i h1
    · exact .inr (Nat.le_trans h.size h1)
theorem Step.alloc {F F' : Nat → Prop} {a b : World} (h : Step F a F' b) (o : Obj) : Step F a F' (b.alloc o) where
  os := h.os
  tape := h.tape
  output := h.output
  size := by simp; have := h.size; omega
  block := fun i hi hn => (Below.heap_alloc _ _ _ (Nat.lt_of_lt_of_le hi h.size)).trans (h.block i hi hn)
  foot := h.foot
theorem Step.drew {F F' : Nat → Prop} {a b : World} (h : Step F a F' b) : Step F a F' b.drew := ⟨h.os, h.tape, h.output, h.size, h.block, h.foot⟩
theorem Step.setCell {F F' : Nat → Prop} {a b : World} (h : Step F a F' b) {p : Addr} (hp : F' p.block) (u : Value) : Step F a F' (b.setCell p u) where
  os := h.os
  tape := h.tape
  output := h.output
  size := by simp [World.setCell]; exact h.size
  block := fun i hi hn => (Below.heap_setCell _ _ _ _ (fun e => by
    subst e
    rcases h.foot _ hp with h1 | h1
    · exact hn h1
    · omega)).trans (h.block i hi hn)
  foot := h.foot
theorem Step.setNew {F F' : Nat → Prop} {a b : World} (h : Step F a F' b) {p : Addr} (hp : a.heap.size ≤ p.block) (u : Value) : Step F a F' (b.setCell p u) where
  os := h.os
  tape := h.tape
  output := h.output
  size := by simp [World.setCell]; exact h.size
  block := fun i hi hn => (Below.heap_setCell _ _ _ _ (by omega)).trans (h.block i hi hn)
  foot := h.foot
/-- Behind an append: the one row that turned is of the footprint; the new footprint. -/
theorem Step.grown {F F' F'' : Nat → Prop} {a b c : World} {row : Option Nat} (h : Step F a F' b) (hg : b.grownBy c row) (hr : ∀ k, row = some k → F' k) (hf : ∀ k, F'' k → F' k ∨ b.heap.size ≤ k) : Step F a F'' c :=
  h.trans ⟨hg.os, hg.tape, hg.output, hg.size, fun k hk hn => hg.block k hk (fun e => hn (hr k e.symm)), hf⟩
theorem Step.below {F F' : Nat → Prop} {a b : World} (h : Step F a F' b) {B : Nat} (hB : B ≤ a.heap.size) (hF : ∀ k, F k → B ≤ k) : Below B a b :=
  ⟨h.os, h.tape, h.output, h.size, fun k hk => h.block k (by omega) (fun hf => by have := hF k hf; omega)⟩
/-- What lies apart from the footprint. -/
theorem Step.apart {F F' G : Nat → Prop} {a b : World} (h : Step F a F' b) (hG : ∀ k, G k → k < a.heap.size ∧ ¬ F k) : (∀ k, G k → b.heap[k]? = a.heap[k]?) ∧ ∀ k, G k → k < b.heap.size ∧ ¬ F' k :=
  ⟨fun k hk => h.block k (hG k hk).1 (hG k hk).2, fun k hk => ⟨Nat.lt_of_lt_of_le (hG k hk).1 h.size, fun hf => by
    rcases h.foot k hf with h1 | h1
    · exact (hG k hk).2 h1
    · have := (hG k hk).1; omega⟩⟩

/-- Bytes (or bits) as cells. -/
def u8s (l : List Nat) : List Value := l.map fun b => Value.int .u8 (b : Nat)
theorem u8s_length (l : List Nat) : (u8s l).length = l.length := by simp [u8s]
theorem u8s_append (a b : List Nat) : u8s (a ++ b) = u8s a ++ u8s b := by simp [u8s]
theorem u8s_get (l : List Nat) (j : Nat) : (u8s l)[j]? = l[j]?.map fun (b : Nat) => Value.int .u8 (b : Int) := by simp [u8s]
theorem u8s_set (l : List Nat) (j x : Nat) : (u8s l).set j (.int .u8 (x : Nat)) = u8s (l.set j x) := by simp [u8s, List.map_set]

/-- The model's struct. -/
def mcells (s : St) (bv : Value) : Array Value := #[bv, .bool s.opn, .int .u16 s.n, .int .i64 s.t0, .int .i64 s.t, .int .i64 s.td, .int .u64 s.v, .int .i64 s.lead, .int .i64 s.trail, .bool s.set]
structure ModelAt (w : World) (m : Nat) (s : St) (bv : Value) : Prop where
  blk : w.heap[m]? = some (.cells (mcells s bv) 30 (0, 0))
  own : w.ownsRow 0 5 1 bv s.bs.length (u8s s.bs)
def footOf (m : Nat) (bv : Value) : Nat → Prop := fun k => k = m ∨ bv.ownBlock = some k

theorem ModelAt.ne {w : World} {m : Nat} {s : St} {bv : Value} (h : ModelAt w m s bv) : bv.ownBlock ≠ some m := by
  intro e
  rcases h.own.2 with ⟨rfl, _⟩ | ⟨g, cap, cur, rfl, _, hg, _⟩
  · cases e
  · simp [Value.ownBlock] at e
    subst e
    rw [h.blk] at hg
    simp at hg
theorem ModelAt.lt {w : World} {m : Nat} {s : St} {bv : Value} (h : ModelAt w m s bv) : ∀ k, footOf m bv k → k < w.heap.size := by
  intro k hk
  rcases hk with rfl | hk
  · exact (Array.getElem?_eq_some_iff.1 h.blk).1
  · exact (h.own.lt k hk).2
theorem ModelAt.of_block {w w' : World} {m : Nat} {s : St} {bv : Value} (h : ModelAt w m s bv) (hb : ∀ k, footOf m bv k → w'.heap[k]? = w.heap[k]?) : ModelAt w' m s bv := by
  refine ⟨(hb m (.inl rfl)).trans h.blk, h.own.1, ?_⟩
  rcases h.own.2 with hn | ⟨g, cap, cur, rfl, h0, hg, rest⟩
  · exact .inl hn
  · exact .inr ⟨g, cap, cur, rfl, h0, (hb g (.inr rfl)).trans hg, rest⟩

theorem cell_of_blk {w : World} {m j : Nat} {cs : Array Value} {t : TypeId} (h : w.heap[m]? = some (.cells cs t (0, 0))) : w.cell? ⟨m, j, none⟩ = cs[j]? := cell_of_row w m j cs t (0, 0) h
theorem frozen_of_blk {w : World} {m : Nat} {cs : Array Value} {t : TypeId} (h : w.heap[m]? = some (.cells cs t (0, 0))) (j : Nat) : w.frozen? ⟨m, j, none⟩ = false := frozen_of_row w m j cs t h
theorem blk_set {w : World} {m : Nat} {cs : Array Value} {t : TypeId} (h : w.heap[m]? = some (.cells cs t (0, 0))) (j : Nat) (u : Value) : (w.setCell ⟨m, j, none⟩ u).heap[m]? = some (.cells (cs.setIfInBounds j u) t (0, 0)) := heap_setCell_same w m j cs t u h
theorem blk_other {w : World} {m b : Nat} (h : m ≠ b) (j : Nat) (u : Value) : (w.setCell ⟨b, j, none⟩ u).heap[m]? = w.heap[m]? := Below.heap_setCell _ _ _ _ h

end Go.Proofs.YbulkecpsFmt
