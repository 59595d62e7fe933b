import Derived.Test.YbulkecpeWalks
import Derived.WalkSpells
namespace Go.Proofs.Ybulkecpe
open Go.ChangeShapes Go.WideShapes Go.ChangeAt Go.RowKit
set_option maxRecDepth 100000

section
variable {P : Program} (w : World)
theorem run_neq_ptr_same {tp te : TypeId} (a : Addr) (hp : P.underlying tp = some (.pointer te)) (hte : (P.info? te).isSome = true) :
    (binOp .neq tp (.pointer (some a)) (.pointer (some a))).run P w = .ok (.bool false) w := by
  obtain ⟨j, hj⟩ := Option.isSome_iff_exists.1 hte
  have h : ∀ d : Nat, (Op.equalIn (d + 1) tp (.pointer (some a)) (.pointer (some a))).run P w = .ok true w := fun d => by
    simp [Op.equalIn, run_underlying hp, sizeOf, typeInfo, hj, run_sameAddr_same]
  simp only [binOp]
  simp [Op.equal, Op.maxDepth, h 9999]
theorem run_eql_ptr_same' {tp te : TypeId} (a : Addr) (hp : P.underlying tp = some (.pointer te)) (hte : (P.info? te).isSome = true) :
    (binOp .eql tp (.pointer (some a)) (.pointer (some a))).run P w = .ok (.bool true) w := by
  obtain ⟨j, hj⟩ := Option.isSome_iff_exists.1 hte
  exact run_eql_ptr_same w a hp hj
/-- 'nil == p', p not nil. -/
theorem run_eql_nil_ptr {tp te : TypeId} (a : Addr) (hp : P.underlying tp = some (.pointer te)) :
    (binOp .eql tp (.pointer none) (.pointer (some a))).run P w = .ok (.bool false) w := by
  have h : ∀ d : Nat, (Op.equalIn (d + 1) tp (.pointer none) (.pointer (some a))).run P w = .ok false w := fun d => by
    simp [Op.equalIn, run_underlying hp]
  simp only [binOp]
  simp [Op.equal, Op.maxDepth, h 9999]
end

/-- There is a plain block at b. -/
def Has (W : World) (b : Nat) : Prop := ∃ c t, W.heap[b]? = some (.cells c t (0, 0))
theorem Has.lt {W : World} {b : Nat} (h : Has W b) : b < W.heap.size := by
  obtain ⟨c, t, e⟩ := h
  exact (Array.getElem?_eq_some_iff.1 e).1
theorem Has.alloc {W : World} {b : Nat} (h : Has W b) (o : Obj) : Has (W.alloc o) b := by
  have hl := h.lt
  obtain ⟨c, t, e⟩ := h
  exact ⟨c, t, by rw [heap_alloc_old _ _ hl]; exact e⟩
theorem Has.new (W : World) (c : Array Value) (t : TypeId) : Has (W.alloc (.cells c t)) W.heap.size := ⟨c, t, heap_alloc_new _ _⟩
theorem Has.new1 (W : World) (o : Obj) (c : Array Value) (t : TypeId) : Has ((W.alloc o).alloc (.cells c t)) (W.heap.size + 1) := ⟨c, t, heap_alloc2_new _ _ _⟩
theorem Has.setCell {W : World} {b : Nat} (h : Has W b) {a : Addr} (v : Value) (hne : b ≠ a.block) : Has (W.setCell a v) b := by
  obtain ⟨c, t, e⟩ := h
  exact ⟨c, t, by rw [heap_setCell_other _ _ _ _ hne]; exact e⟩

theorem sz42 : (Yba.prog.info? 42).map (·.size == 0) = some false := by kernel_rfl
theorem eql_other {W : World} {a b : Nat} (hne : a ≠ b) (ha : Has W a) (hb : Has W b) :
    (binOp .eql 22 (.pointer (some ⟨a, 0, none⟩)) (.pointer (some ⟨b, 0, none⟩))).run Yba.prog W = .ok (.bool false) W := by
  obtain ⟨j, hj, hz⟩ := Option.map_eq_some_iff.1 sz42
  obtain ⟨c, t, e⟩ := ha
  obtain ⟨c', t', e'⟩ := hb
  exact run_eql_ptr_other W Yba.underlying22 hj (by simpa using hz) (fun h => hne (congrArg Addr.block h)) e e'

theorem s43 (a : Addr) (w : World) : (binOp .neq 43 (.pointer (some a)) (.pointer (some a))).run Yba.prog w = .ok (.bool false) w := run_neq_ptr_same w a Yba.underlying43 (by kernel_rfl)
theorem s22n (a : Addr) (w : World) : (binOp .neq 22 (.pointer (some a)) (.pointer (some a))).run Yba.prog w = .ok (.bool false) w := run_neq_ptr_same w a Yba.underlying22 (by kernel_rfl)
theorem s22e (a : Addr) (w : World) : (binOp .eql 22 (.pointer (some a)) (.pointer (some a))).run Yba.prog w = .ok (.bool true) w := run_eql_ptr_same' w a Yba.underlying22 (by kernel_rfl)
theorem s22z (a : Addr) (w : World) : (binOp .eql 22 (.pointer none) (.pointer (some a))).run Yba.prog w = .ok (.bool false) w := run_eql_nil_ptr w a Yba.underlying22

end Go.Proofs.Ybulkecpe
