import Derived.Test.YbulkecpsFmtLaw
import Derived.Test.YbulkecpsFmtTie
import Derived.Test.YbulkecpsFmtCards
import Derived.ChangeOld
import Derived.Below
import Derived.LaidMore
import Derived.LaidLaws
import Derived.Stop.LaidErr
import Derived.Stop.Joined
import Derived.Stop.JoinedTold
import Derived.Deep.DeepWitnessRef
import Derived.SevenTiedAt
import Derived.WalkSmall
import Derived.Lib.LaidTab
import Derived.Deep.Slices
namespace Go.Proofs.YbulkecpsFmt.lawS6453AWhole
open Go Go.ChangeShapes Go.WideShapes Go.ChangeAt Go.RowKit Go.Stop
set_option linter.unusedVariables false

theorem own : ownKnob Ybaf.prog.godebug = none := by kernel_rfl
theorem laidOut : laidOutB Ybaf.prog = true := by kernel_rfl

/-- The variable's name, as the row lists it. -/
def nm : String := Rows.lawS6453AWholeSpec.vars.getD 0 ""
/-- The dynamic type's name, as the row's datum says it. -/
def tyName : String := match (Rows.laid_example_com_oriel_oriel_chunkenc_ErrFull (H := Unit)) with | .iface n _ => n | _ => ""
theorem g0 : Ybaf.prog.globalNamed nm = some 0 := by kernel_rfl
theorem t0 : (Ybaf.prog.globals[0]?).map (·.type) = some 35 := by kernel_rfl
theorem cells73 : Ybaf.prog.cellsOf 73 = 1 := by kernel_rfl
theorem cells9 : Ybaf.prog.cellsOf 9 = 1 := by kernel_rfl
theorem star : tyName = String.singleton (Char.ofNat 42) ++ "errors.errorString" := by kernel_rfl
theorem row71 (u : TypeId) (h : Ybaf.prog.typeName? 3 u = some tyName) : u = 71 :=
  typeName_ptr_named (P := Ybaf.prog) (nm := "errors.errorString") (by kernel_rfl) (by kernel_rfl) (by decide) u (by rw [h, star]; rfl)

theorem cells5 : Ybaf.prog.cellsOf 5 = 1 := by kernel_rfl
theorem cells74 : Ybaf.prog.cellsOf 74 = 64 := by kernel_rfl
theorem cells2 : Ybaf.prog.cellsOf 2 = 1 := by kernel_rfl
theorem cells31 : Ybaf.prog.cellsOf 31 = 1 := by kernel_rfl
/-- The table's name, as the row lists it. -/
def tabNm : String := Rows.lawS6453AWholeRow.named.getD 2 ""
theorem g3 : Ybaf.prog.globalNamed tabNm = some 3 := by kernel_rfl
theorem t3 : (Ybaf.prog.globals[3]?).map (·.type) = some 74 := by kernel_rfl
theorem tabEq : Rows.laid_math_bits_deBruijn64tab (H := Unit) = Lib.tabData .u8 (Lib.deBruijn64tab.map fun n => ((n : Nat) : Int)) := by rfl

/-- WHAT THE CONDITION GIVES THE WALK: ErrFull holds a pointer to an errorString; the table stands. -/
theorem of_laid {W : World} (h : laidMetH Ybaf.prog Rows.lawS6453AWholeRow.laid W) : (∃ x0 : Addr, W.var? Ybaf.prog nm = some #[.iface 71 (.pointer (some x0))] ∧ ∃ s, W.cell? x0 = some (.string s)) ∧ TabAt 3 Lib.deBruijn64tab W := by
  rw [MakeChecks.laidMetH_plain _ _ _ (by kernel_rfl)] at h
  obtain ⟨x0, s0, h0, hc0, _⟩ := laid_sentinel (n := nm) (nm := tyName) h.tail g0 t0 Ybaf.underlying35 row71 Ybaf.underlying71 Ybaf.underlying73 rfl rfl Ybaf.underlying9 cells73 cells9
  refine ⟨⟨x0, h0, s0, hc0⟩, ?_⟩
  have hT : Lib.TabIs Ybaf.prog W tabNm .u8 (Lib.deBruijn64tab.map fun n => ((n : Nat) : Int)) := Lib.tabIs_of_head g3 t3 Ybaf.underlying74 Ybaf.underlying5 cells5 cells74 h
  intro j hj
  rw [hT.cell g3 j (by rw [List.length_map]; exact hj)]
  simp [List.getD, hj]

theorem i64_range {a : Int} (h : (Lit.int .i64 a).wf = true) : -9223372036854775808 ≤ a ∧ a ≤ 9223372036854775807 := by
  simp only [Lit.wf, Bool.and_eq_true, decide_eq_true_eq] at h
  have e1 : IntKind.i64.min = -9223372036854775808 := by decide
  have e2 : IntKind.i64.max = 9223372036854775807 := by decide
  rw [e1, e2] at h
  exact h

theorem trod_float {W : World} {H : Type} {enc : TypeId × Value → H} {fuel : Nat} {cs : List Value} {x : DataW H × List MemPlace} (h : DataW.trod enc Ybaf.prog W 0 (fun _ => true) true fuel 31 cs = some x) : ∃ b : Nat, cs = [.float .f64 b] ∧ b < 18446744073709551616 := by
  cases fuel with
  | zero => simp [DataW.trod] at h
  | succ n =>
    unfold DataW.trod at h
    rw [Ybaf.underlying31] at h
    split at h <;> simp_all
    rename_i heq
    subst heq
    simpa [Lit.wf] using h.1.2

/-- A []int64 that came in, read. -/
theorem opened_gaps {W : World} {v : Value} {H : Type} {enc : TypeId × Value → H} {n : Nat} {y : DataW H × List MemPlace} (hf : DataW.trod enc Ybaf.prog W 0 (fun _ => true) true n 22 [v] = some y) :
    ∃ (a0 : Option Addr) (len cap : Nat) (G : Nat → Int), v = .slice a0 len cap ∧ (0 < len → ∃ b off, a0 = some ⟨b, off, none⟩ ∧ ∀ i, i < len → W.cell? ⟨b, off + i, none⟩ = some (.int .i64 (G i))) := by
  rcases open_ints Ybaf.underlying22 Ybaf.underlying2 cells2 hf with ⟨hcs, hx⟩ | ⟨x, l, c, zs, hcs, _, hl, hm, hz, hx, hcell, hwz⟩
  · simp at hcs
    exact ⟨none, 0, 0, fun _ => 0, hcs, fun h => by cases h⟩
  · simp at hcs
    subst hcs
    have hz' : zs.length = c := by simpa using hz
    refine ⟨some x, l, c, fun i => zs.getD i 0, rfl, fun h => ?_⟩
    obtain ⟨b, off, rfl, hc⟩ := ints_at hcell (by omega)
    exact ⟨b, off, rfl, fun i hi => hc i (by omega)⟩

/-- A []float64 that came in, read. -/
theorem opened_vals {W : World} {v : Value} {H : Type} {enc : TypeId × Value → H} {n : Nat} {y : DataW H × List MemPlace} (hf : DataW.trod enc Ybaf.prog W 0 (fun _ => true) true n 23 [v] = some y) :
    ∃ (a0 : Option Addr) (len cap : Nat) (V : Nat → Nat), v = .slice a0 len cap ∧ (0 < len → ∃ b off, a0 = some ⟨b, off, none⟩ ∧ ∀ i, i < len → W.cell? ⟨b, off + i, none⟩ = some (.float .f64 (V i)) ∧ V i < 18446744073709551616) := by
  rcases Deep.open_slice1 Ybaf.underlying23 cells31 hf with ⟨hcs, hx⟩ | ⟨x, l, c, k, n', V, D, Pl, hcs, _, hl, hm, hk, hx, hcell⟩
  · simp at hcs
    exact ⟨none, 0, 0, fun _ => 0, hcs, fun h => by cases h⟩
  · simp at hcs
    subst hcs
    have hk' : k = c := by simpa using hk
    refine ⟨some x, l, c, fun i => match V i with | .float _ b => b | _ => 0, rfl, fun h => ?_⟩
    obtain ⟨b, off, sp⟩ := x
    have hsp : sp = none := by
      have h1 := (hcell 0 (by omega)).1
      cases sp with
      | none => rfl
      | some _ =>
        exfalso
        simp only [Addr.add, World.cell?] at h1
        split at h1 <;> simp at h1
    subst hsp
    refine ⟨b, off, rfl, fun i hi => ?_⟩
    obtain ⟨h1, h2⟩ := hcell i (by omega)
    obtain ⟨fb, hfb, hlt⟩ := trod_float h2
    have hVi : V i = .float .f64 fb := by simpa using hfb
    rw [Addr.add_lit] at h1
    rw [h1]
    simp only [hVi]
    exact ⟨trivial, hlt⟩

/-- The door's own heap meets the condition. -/
theorem door_met (os : Os) (args : Array Value) : laidMetH Ybaf.prog Rows.lawS6453AWholeRow.laid ((World.doorLaid Ybaf.prog 400 os).forCall (fun _ _ => 0) ⟨#[], args, []⟩).memory :=
  laidMetH_of_parts3 (fuel := 8) (laidMet_of_run' 8 (by kernel_rfl) (by kernel_rfl)) (by kernel_rfl) (by kernel_rfl)

theorem witness_row (os : Os) {H : Type} (enc : TypeId × Value → H) :
    (OpenSpec.ofChange Rows.lawS6453AWholeSpec).preRow enc Ybaf.prog Ybaf.f3 Rows.lawS6453AWholeRow.domain false Rows.lawS6453AWholeRow.laid ((World.doorLaid Ybaf.prog 400 os).forCall (fun _ _ => 0) ⟨#[], #[.int .i64 0, .slice none 0 0, .slice none 0 0], []⟩).memory
      #[.int .i64 0, .slice none 0 0, .slice none 0 0] :=
  OpenSpec.preRow_of_B rfl 8 (by kernel_rfl) (by kernel_rfl) (door_met os _)

set_option maxRecDepth 100000 in
set_option maxHeartbeats 2000000 in
theorem lifted (os : Os) (started : os.Started) (H : Type) (enc : TypeId × Value → H) :
    ReturnsInTold none {} Ybaf.checked os 3 .any Input.okWide ((OpenSpec.ofChange Rows.lawS6453AWholeSpec).preRow enc Ybaf.prog Ybaf.f3 Rows.lawS6453AWholeRow.domain false Rows.lawS6453AWholeRow.laid)
      (fun F => ((OpenSpec.ofChange Rows.lawS6453AWholeSpec).at F).post enc Ybaf.prog Ybaf.f3 false true false false) (aloneAtReturn Ybaf.prog) nothingAlways := by
  refine returnsInTold_of_row (C := Ybaf.checked) (s := OpenSpec.ofChange Rows.lawS6453AWholeSpec) (by kernel_rfl) own started (by kernel_rfl) Ybaf.func3
    (OpenSpec.witness_stopped_atRef (enc := enc) (C := Ybaf.checked) false (World.doorLaid Ybaf.prog 400 os) _ rfl (by kernel_rfl) (by kernel_rfl) (by kernel_rfl) (witness_row os enc)) ?_
  intro F W base args ds gs before _ hF hval0 hW _ _ hsz hL _
  have hval : ∀ (j : Nat) t v, Ybaf.f3.params[j]? = some t → args[j]? = some v → Value.okWide Ybaf.prog W .any base t v := hval0
  have hW' := hW
  obtain ⟨p, q, hA0, hV0, rfl, hfz, hnd⟩ := hW
  have hA : DataW.TrodAll enc Ybaf.prog W 0 (fun _ => true) true Ybaf.f3.params.toList args.toList ds p := hA0
  have hV : DataW.TrodVars enc Ybaf.prog W (fun _ => true) [nm] gs q := hV0
  rw [Ybaf.params3] at hA hval
  obtain ⟨v0, v1, v2, d0, d1, d2, p0, p1, p2, rfl, rfl, rfl, h0, h1, h2⟩ := trodAll_three hA
  obtain ⟨⟨x0, hv0, sx, hcx⟩, hTab⟩ := of_laid hL
  obtain ⟨rfl, rfl⟩ := hV.unique (vars_read1 enc g0 t0 Ybaf.underlying35 hv0 trivial _)
  have lt1 : ∀ x ∈ p1, x.block < W.heap.size := by obtain ⟨m, hm⟩ := h1; exact DataW.trod_lt m _ _ _ hm
  have lt2 : ∀ x ∈ p2, x.block < W.heap.size := by obtain ⟨m, hm⟩ := h2; exact DataW.trod_lt m _ _ _ hm
  have k1 := h1
  have k2 := h2
  obtain ⟨_, _, _, rfl⟩ := okWide_slice Ybaf.underlying22 (hval 1 22 v1 rfl rfl)
  obtain ⟨_, _, _, rfl⟩ := okWide_slice Ybaf.underlying23 (hval 2 23 v2 rfl rfl)
  obtain ⟨m1, hm1⟩ := h1
  obtain ⟨m2, hm2⟩ := h2
  obtain ⟨ga, gl, gc, G, eg, hG⟩ := opened_gaps hm1
  obtain ⟨va, vl, vc, V, ev, hVv⟩ := opened_vals hm2
  simp only [Value.slice.injEq] at eg ev
  obtain ⟨rfl, rfl, rfl⟩ := eg
  obtain ⟨rfl, rfl, rfl⟩ := ev
  obtain ⟨a0, rfl, rfl, rfl, w0⟩ := open_int Ybaf.underlying2 (hval 0 2 v0 rfl rfl) h0
  have hr : -9223372036854775808 ≤ a0 ∧ a0 ≤ 9223372036854775807 := i64_range w0
  clear hA0 hV0 hval0
  have hc0 : W.cell? ⟨0, 0, none⟩ = some (.iface 71 (.pointer (some x0))) := by simpa using World.var?_cell g0 hv0 0
  have hpos : 0 < W.heap.size := World.block_lt_of_cell? W ⟨0, 0, none⟩ hc0
  have hxb : ∃ cb tb fr, W.heap[x0.block]? = some (.cells cb tb fr) ∧ cb.size ≠ 0 := by
    unfold World.cell? at hcx
    split at hcx
    · rename_i cb tb fr hh
      refine ⟨cb, tb, fr, hh, fun h => ?_⟩
      split at hcx
      · cases hcx
      · rw [Array.getElem?_eq_none (by omega)] at hcx
        cases hcx
    · cases hcx
  refine (law_walk a0 _ _ _ _ _ _ G V W x0 hc0 hTab hxb hG hVv hr.1 hr.2).mono fun e W' ⟨he, bel⟩ => ?_
  subst he
  refine ⟨_, rfl, _, _, _, [], [] ++ (p1 ++ p2), [.cell 0 0], hW', ?_, ?_, ?_, bel.frame _, fun h => by cases h⟩
  · exact trodAll_mk1 (shut_bool Ybaf.underlying4 _)
  · exact trodAll_mk3 (shut_int Ybaf.underlying2 w0) (Below.trod laidOut (by kernel_rfl) (of_decide_eq_true (by kernel_rfl)) k1 bel lt1) (Below.trod laidOut (by kernel_rfl) (of_decide_eq_true (by kernel_rfl)) k2 bel lt2)
  · exact vars_read1 enc g0 t0 Ybaf.underlying35 (var?_below bel g0 (by omega) hv0) trivial _

theorem stopKnobs : Ybaf.pinned.checked.prog.stopKnobs = [] := by kernel_rfl
theorem quiet (os : Os) : Stop.quiet Ybaf.pinned.checked.prog os := by
  intro k hk
  rw [stopKnobs] at hk
  cases hk

/-- ████ THE STATEMENT ████ -/
theorem proved : Rows.LawS6453AWholeToldSaid :=
  Claim7.holds_of_told_tied_any_at .later 3 Ybaf.f3 "fmt.errorf" [] [] _ _ _ _ _ (by kernel_rfl) rfl rfl rfl laidOut (by kernel_rfl) rfl ⟨rfl, rfl, rfl, rfl, rfl, rfl, rfl⟩ rfl rfl (by kernel_rfl) (by kernel_rfl) Ybaf.func3 (by kernel_rfl)
    (of_decide_eq_true (by kernel_rfl)) (of_decide_eq_true (by kernel_rfl)) (by kernel_rfl) rfl stopKnobs.symm (by kernel_rfl)
    (by kernel_rfl) (by kernel_rfl) (by kernel_rfl) (by kernel_rfl) (by kernel_rfl) (by kernel_rfl) (by kernel_rfl) (by kernel_rfl) (by kernel_rfl) rfl (by kernel_rfl) rfl rfl
    rfl rfl
    rfl (by kernel_rfl) (by kernel_rfl) (by kernel_rfl) (by decide) (by kernel_rfl) lawS6453AWhole_row_tie
    (OpenClaim.moreEntering_of (by kernel_rfl) (by kernel_rfl) (by kernel_rfl) (by kernel_rfl) (by kernel_rfl) (by kernel_rfl) (by kernel_rfl) (by kernel_rfl) (by kernel_rfl) (by kernel_rfl))
    ⟨_, WideRow.started_initial, quiet _⟩
    (fun os started _ H enc _ => lifted os started H enc)
end Go.Proofs.YbulkecpsFmt.lawS6453AWhole
