import Derived.Test.YbulkecpsFmtUvar
import Derived.Test.YbulkecpsFmtStep
import Derived.Lib.JoinLaws
import Derived.Lib.Zigzag
namespace Go.Proofs.YbulkecpsFmt
open Go.ChangeShapes Go.WideShapes Go.ChangeAt Go.RowKit
set_option maxRecDepth 100000

/-- The buffer's block: ten bytes, of which the first are these. -/
def BufAt (w : World) (B : Nat) (l : List UInt8) : Prop := ∃ cs : Array Value, w.heap[B]? = some (.cells cs 57 (0, 0)) ∧ cs.size = 10 ∧ ∀ i (h : i < l.length), cs[i]? = some (.int .u8 (l[i].toNat : Nat))
theorem BufAt.lt {w : World} {B : Nat} {l : List UInt8} (h : BufAt w B l) : B < w.heap.size := by
  obtain ⟨cs, h, _⟩ := h
  exact (Array.getElem?_eq_some_iff.1 h).1
theorem BufAt.alloc {w : World} {B : Nat} {l : List UInt8} (h : BufAt w B l) (o : Obj) : BufAt (w.alloc o) B l := by
  have hlt := h.lt
  obtain ⟨cs, h, h2⟩ := h
  exact ⟨cs, (Below.heap_alloc _ _ _ hlt).trans h, h2⟩
theorem BufAt.push {w : World} {B : Nat} {l : List UInt8} (h : BufAt w B l) (hl : l.length < 10) (x : Nat) (hx : x < 256) : BufAt (w.setCell ⟨B, l.length, none⟩ (.int .u8 (x : Int))) B (l ++ [x.toUInt8]) := by
  obtain ⟨cs, h, hs, h2⟩ := h
  refine ⟨_, blk_set h _ _, by simpa using hs, fun i hi => ?_⟩
  rw [List.length_append, List.length_singleton] at hi
  rw [Array.getElem?_setIfInBounds]
  by_cases e : l.length = i
  · subst e
    rw [if_pos rfl, if_pos (by omega)]
    simp [u8_toNat x hx]
  · rw [if_neg e, h2 i (by omega), List.getElem_append_left (by omega)]

set_option maxHeartbeats 2000000 in
theorem uvarint_walk (B x : Nat) (w : World) (hx : x < 18446744073709551616) (hB : BufAt w B []) :
    Calls Ybaf.prog 22 #[.slice (some ⟨B, 0, none⟩) 0 10, .int .u64 x] w fun e w' => e = .returned (.slice (some ⟨B, 0, none⟩) (Lib.uvarint x).length 10) ∧ BufAt w' B (Lib.uvarint x) ∧ Step (fun k => k = B) w (fun k => k = B) w' := by
  have HX : Hid (x < 18446744073709551616) := hx
  have hlen := Lib.uvarint_length64 hx
  clear hx
  go_enter Ybaf.func22, Ybaf.ntmps22
  go_wp2
  go_loopw [0, 1] (fun vb vx wr => ∃ (y : Nat) (pre : List UInt8), vb = .slice (some ⟨B, 0, none⟩) pre.length 10 ∧ vx = .int .u64 y ∧ y ≤ x ∧ Lib.uvarint x = pre ++ Lib.uvarint y ∧ BufAt wr B pre ∧ Step (fun k => k = B) w (fun k => k = B) wr)
    (fun _ vx _ => (intOf vx).toNat)
  case atStart => exact ⟨x, [], rfl, rfl, Nat.le_refl _, rfl, hB, Step.refl _ _⟩
  case round =>
    obtain ⟨y, pre, rfl, rfl, hy, hsplit, hBr, hS⟩ := hrel
    have hpl : pre.length + (Lib.uvarint y).length ≤ 10 := by
      have h2 := congrArg List.length hsplit
      rw [List.length_append] at h2
      omega
    have hyp := Lib.uvarint_pos y
    have hy64 : y < 18446744073709551616 := by have := HX.out; omega
    have hc : ∀ (o : Obj) (j : Nat), j < 1 → ((wr.alloc o).cell? ⟨B, 0 + pre.length + j, none⟩).isSome = true := fun o j hj => by
      obtain ⟨cs, h, hs, _⟩ := hBr.alloc o
      rw [cell_of_blk h, Array.getElem?_eq_getElem (by omega)]
      rfl
    have hfz : ∀ (o : Obj) (j : Nat), j < 1 → (wr.alloc o).frozen? ⟨B, 0 + pre.length + j, none⟩ = false := fun o j _ => by
      obtain ⟨cs, h, _⟩ := hBr.alloc o
      exact frozen_of_blk h _
    have HS : Hid (Lib.uvarint x = pre ++ Lib.uvarint y) := hsplit
    have HP : Hid (pre.length + (Lib.uvarint y).length ≤ 10) := hpl
    have hp10 : pre.length < 10 := by omega
    have HY : Hid (y < 18446744073709551616) := hy64
    clear hsplit hpl hy64
    by_cases h128 : 128 ≤ y
    · have hor : bits .or .u8 ((y : Int) % 256) 128 = ((y % 128 + 128 : Nat) : Int) := by
        rw [Lib.u8_or128_any _ (by omega) (by omega)]
        omega
      go_wp2_with (at_builtin; refine wpList_append_room1 _ rfl _ _ 26 26 rfl 5 (.int .u8 0) 1 Ybaf.underlying26 info5 B 0 pre.length 10 rfl _ rfl 1 [Value.int .u8 ((y % 128 + 128 : Nat) : Int)] (Src.ofSlice _ Ybaf.underlying26 ⟨wr.heap.size, 0, none⟩ 1 1 _ rfl (cell_one_new _ _ _) (by intro u hu; simp at hu; subst hu; rfl)) (by omega) (hc _) (hfz _) ?_)
      go_wp2
      go_roundw
      case rel =>
        have ez : ((y % 128 + 128 : Nat) : Int) = (y : Int) % 128 + 128 := by omega
        refine ⟨y / 128, pre ++ [(y % 128 + 128).toUInt8], by simp, by go_num, by omega, by rw [HS.out, Lib.uvarint_big h128]; simp, ?_, ?_⟩
        · rw [← ez]
          exact (hBr.alloc _).push hp10 (y % 128 + 128) (by omega)
        · exact (hS.alloc _).setCell (p := ⟨B, pre.length, none⟩) rfl _
      case measure => simp [intOf]; omega
    · have hsm : Lib.uvarint y = [y.toUInt8] := Lib.uvarint_small (by omega)
      go_wp2_with (at_builtin; refine wpList_append_room1 _ rfl _ _ 26 26 rfl 5 (.int .u8 0) 1 Ybaf.underlying26 info5 B 0 pre.length 10 rfl _ rfl 1 [Value.int .u8 (y : Int)] (Src.ofSlice _ Ybaf.underlying26 ⟨wr.heap.size, 0, none⟩ 1 1 _ rfl (cell_one_new _ _ _) (by intro u hu; simp at hu; subst hu; rfl)) (by omega) (hc _) (hfz _) ?_)
      go_wp2
      go_ret
      rw [HS.out, hsm]
      refine ⟨by simp, ?_, ?_⟩
      · first | exact (hBr.alloc _).push hp10 y (by omega) | simpa [World.setCells] using (hBr.alloc (.cells #[.int .u8 (y : Int)] 5)).push hp10 y (by omega)
      · first | exact (hS.alloc _).setCell (p := ⟨B, pre.length, none⟩) rfl _ | simpa [World.setCells] using (hS.alloc (.cells #[.int .u8 (y : Int)] 5)).setCell (p := ⟨B, pre.length, none⟩) rfl (.int .u8 (y : Int))

set_option maxHeartbeats 2000000 in
theorem varint_walk (B : Nat) (x : Int) (w : World) (h0 : -9223372036854775808 ≤ x) (h1 : x ≤ 9223372036854775807) (hB : BufAt w B []) :
    Calls Ybaf.prog 20 #[.slice (some ⟨B, 0, none⟩) 0 10, .int .i64 x] w fun e w' => e = .returned (.slice (some ⟨B, 0, none⟩) (Lib.uvarint (Lib.zigzag x)).length 10) ∧ BufAt w' B (Lib.uvarint (Lib.zigzag x)) ∧ Step (fun k => k = B) w (fun k => k = B) w' := by
  have hU := uvarint_walk B (Lib.zigzag x) w (zigzag_lt h0 h1) hB
  by_cases hneg : x < 0
  · rw [← Lib.zigzag_neg h0 hneg] at hU
    go_enter Ybaf.func20, Ybaf.ntmps20
    go_wp2_with fail
    refine hU.mono ?_
    rintro e w1 ⟨rfl, ho⟩
    go_wp2
    go_ret
    exact ⟨rfl, ho⟩
  · rw [Lib.zigzag_nonneg (by omega)] at hU
    go_enter Ybaf.func20, Ybaf.ntmps20
    go_wp2_with fail
    refine hU.mono ?_
    rintro e w1 ⟨rfl, ho⟩
    go_wp2
    go_ret
    exact ⟨rfl, ho⟩
end Go.Proofs.YbulkecpsFmt
