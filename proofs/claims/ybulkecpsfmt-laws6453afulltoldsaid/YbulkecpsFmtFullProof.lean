import Derived.Test.YbulkecpsFmtFull
import Derived.Test.YbulkecpsFmtTie
import Derived.Test.YbulkecpsFmtCards
import Derived.ChangeOld
import Derived.Below
import Derived.LaidMore
import Derived.LaidLaws
import Derived.Stop.LaidErr
import Derived.Stop.Joined
import Derived.Stop.JoinedTold
import Derived.Deep.DeepWitnessRef
import Derived.SevenTiedAt
import Derived.WalkSmall
namespace Go.Proofs.YbulkecpsFmt.lawS6453AFull
open Go Go.ChangeShapes Go.WideShapes Go.ChangeAt Go.RowKit Go.Stop
set_option linter.unusedVariables false

theorem own : ownKnob Ybaf.prog.godebug = none := by kernel_rfl
theorem laidOut : laidOutB Ybaf.prog = true := by kernel_rfl

/-- The variable's name, as the row lists it. -/
def nm : String := Rows.lawS6453AFullSpec.vars.getD 0 ""
/-- The dynamic type's name, as the row's datum says it. -/
def tyName : String := match (Rows.laid_example_com_oriel_oriel_chunkenc_ErrFull (H := Unit)) with | .iface n _ => n | _ => ""
theorem g0 : Ybaf.prog.globalNamed nm = some 0 := by kernel_rfl
theorem t0 : (Ybaf.prog.globals[0]?).map (·.type) = some 35 := by kernel_rfl
theorem cells73 : Ybaf.prog.cellsOf 73 = 1 := by kernel_rfl
theorem cells9 : Ybaf.prog.cellsOf 9 = 1 := by kernel_rfl
theorem star : tyName = String.singleton (Char.ofNat 42) ++ "errors.errorString" := by kernel_rfl
theorem row71 (u : TypeId) (h : Ybaf.prog.typeName? 3 u = some tyName) : u = 71 :=
  typeName_ptr_named (P := Ybaf.prog) (nm := "errors.errorString") (by kernel_rfl) (by kernel_rfl) (by decide) u (by rw [h, star]; rfl)

/-- WHAT THE CONDITION GIVES THE WALK: ErrFull holds a pointer to an errorString. -/
theorem of_laid {W : World} (h : laidMetH Ybaf.prog Rows.lawS6453AFullRow.laid W) : ∃ x0 : Addr, W.var? Ybaf.prog nm = some #[.iface 71 (.pointer (some x0))] := by
  rw [MakeChecks.laidMetH_plain _ _ _ (by kernel_rfl)] at h
  obtain ⟨x0, s0, h0, _⟩ := laid_sentinel (n := nm) (nm := tyName) h.tail g0 t0 Ybaf.underlying35 row71 Ybaf.underlying71 Ybaf.underlying73 rfl rfl Ybaf.underlying9 cells73 cells9
  exact ⟨x0, h0⟩

theorem nine {α : Type} {cs : Array α} (h : cs.size = 9) : ∃ a b c d e f g i j, cs = #[a, b, c, d, e, f, g, i, j] := by
  obtain ⟨l⟩ := cs
  match l, h with
  | [a, b, c, d, e, f, g, i, j], _ => exact ⟨a, b, c, d, e, f, g, i, j, rfl⟩
theorem nineL {α : Type} {cs : List α} (h : cs.length = 9) : ∃ a b c d e f g i j, cs = [a, b, c, d, e, f, g, i, j] := by
  match cs, h with
  | [a, b, c, d, e, f, g, i, j], _ => exact ⟨a, b, c, d, e, f, g, i, j, rfl⟩

theorem cells2 : Ybaf.prog.cellsOf 2 = 1 := by kernel_rfl
theorem cells3 : Ybaf.prog.cellsOf 3 = 1 := by kernel_rfl
theorem cells4 : Ybaf.prog.cellsOf 4 = 1 := by kernel_rfl
theorem cells26 : Ybaf.prog.cellsOf 26 = 1 := by kernel_rfl
theorem cells28 : Ybaf.prog.cellsOf 28 = 1 := by kernel_rfl
theorem cells48 : Ybaf.prog.cellsOf 48 = 9 := by kernel_rfl
theorem bytes5 : Ybaf.prog.bytesOf 5 = 1 := by kernel_rfl

/-- A []byte that came in, read. -/
theorem opened_bytes {W : World} {v : Value} {H : Type} {enc : TypeId × Value → H} {n : Nat} {y : DataW H × List MemPlace} (hf : DataW.trod enc Ybaf.prog W 0 (fun _ => true) true n 26 [v] = some y) :
    ∃ (a0 : Option Addr) (len cap : Nat) (f : Nat → Nat), v = .slice a0 len cap ∧ Bytes W.heap.size W a0 len cap f ∧ ((DataW.weights Ybaf.prog 26 y.1).all (· ≤ reachBytes) = true → len ≤ 140737488351232) := by
  rcases open_ints Ybaf.underlying26 Ybaf.underlying5 (by kernel_rfl) hf with ⟨hcs, hx⟩ | ⟨x, l, c, zs, hcs, _, hl, hm, hz, hx, hcell, hwz⟩
  · simp at hcs
    exact ⟨none, 0, 0, fun _ => 0, hcs, .inl ⟨rfl, rfl, rfl⟩, fun _ => Nat.zero_le _⟩
  · simp at hcs
    subst hcs
    have hz' : zs.length = c := by simpa using hz
    have hr := range_u8 hwz
    have hw : (DataW.weights Ybaf.prog 26 y.1).all (· ≤ reachBytes) = true → l ≤ 140737488351232 := fun h => by
      rw [hx] at h
      simp [DataW.weights, Ybaf.underlying26, bytes5, reachBytes, lits] at h
      have h' := of_decide_eq_true h.1
      omega
    by_cases h0 : l = 0
    · exact ⟨some x, l, c, fun _ => 0, rfl, .inr (.inl ⟨x, rfl, h0⟩), hw⟩
    · obtain ⟨b, off, rfl, hc⟩ := ints_at hcell (by omega)
      refine ⟨_, l, c, fun i => (zs[i]?.getD 0).toNat, rfl, .inr (.inr ⟨b, off, rfl, ?_, fun i hi => ?_⟩), hw⟩
      · have := hc 0 (by omega)
        rcases Nat.lt_or_ge b W.heap.size with h | h
        · exact h
        · simp [World.cell?, Array.getElem?_eq_none h] at this
      · rw [hc i (by omega)]
        have := hr i
        simp only [List.getD]
        rw [Int.toNat_of_nonneg this.1]

/-- The chunk's state that came in by value, read. -/
theorem opened {W : World} {base : Nat} {v : Value} {H : Type} {enc : TypeId × Value → H} {d : DataW H} {p : List MemPlace} (hv : Value.okWide Ybaf.prog W .any base 48 v) (h : DataW.Trod enc Ybaf.prog W 0 (fun _ => true) true 48 v d p) :
    ∃ (a0 a1 a2 a3 a4 a5 : Int) (st : Bool) (ad : Option Addr) (len cap : Nat) (f : Nat → Nat) (fr : Int), v = .agg #[.int .i64 a0, .int .i64 a1, .int .i64 a2, .int .u64 a3, .int .i64 a4, .int .i64 a5, .bool st, .slice ad len cap, .int .i64 fr] ∧
      Bytes W.heap.size W ad len cap f ∧ ((DataW.weights Ybaf.prog 48 d).all (· ≤ reachBytes) = true → len ≤ 140737488351232) := by
  obtain ⟨cs, rfl, hsz⟩ := okWide_struct Ybaf.underlying48 hv
  obtain ⟨c0, c1, c2, c3, c4, c5, c6, c7, c8, rfl⟩ := nine (hsz.trans cells48)
  obtain ⟨fuel, hf⟩ := h
  obtain ⟨xs, n, rfl, hx, _, hl, hel⟩ := DataW.trod_struct Ybaf.underlying48 hf
  obtain ⟨y0, y1, y2, y3, y4, y5, y6, y7, y8, rfl⟩ := nineL hl
  have e0 := hel 0 _ rfl
  have e1 := hel 1 _ rfl
  have e2 := hel 2 _ rfl
  have e3 := hel 3 _ rfl
  have e4 := hel 4 _ rfl
  have e5 := hel 5 _ rfl
  have e6 := hel 6 _ rfl
  have e7 := hel 7 _ rfl
  have e8 := hel 8 _ rfl
  simp [Value.cells, cells2, cells3, cells4, cells26, cells28] at e0 e1 e2 e3 e4 e5 e6 e7 e8
  obtain ⟨a0, h0, _, _⟩ := DataW.trod_int Ybaf.underlying2 e0
  obtain ⟨a1, h1, _, _⟩ := DataW.trod_int Ybaf.underlying2 e1
  obtain ⟨a2, h2, _, _⟩ := DataW.trod_int Ybaf.underlying2 e2
  obtain ⟨a3, h3, _, _⟩ := DataW.trod_int Ybaf.underlying28 e3
  obtain ⟨a4, h4, _, _⟩ := DataW.trod_int Ybaf.underlying3 e4
  obtain ⟨a5, h5, _, _⟩ := DataW.trod_int Ybaf.underlying3 e5
  obtain ⟨st, h6, _⟩ := DataW.trod_bool Ybaf.underlying4 e6
  obtain ⟨ad, len, cap, f, rfl, hb, hw⟩ := opened_bytes e7
  obtain ⟨fr, h8, _, _⟩ := DataW.trod_int Ybaf.underlying3 e8
  simp at h0 h1 h2 h3 h4 h5 h6 h8
  subst h0 h1 h2 h3 h4 h5 h6 h8
  refine ⟨a0, a1, a2, a3, a4, a5, st, ad, len, cap, f, fr, rfl, hb, fun h => hw ?_⟩
  simp only [Prod.mk.injEq] at hx
  rw [hx.1] at h
  simp only [DataW.weights, Ybaf.underlying48, DataW.weightsEach, List.map_cons, List.map_nil, List.all_append, Bool.and_eq_true] at h
  exact h.2.2.2.2.2.2.2.1

/-- The door's own heap meets the condition. -/
theorem door_met (os : Os) (args : Array Value) : laidMetH Ybaf.prog Rows.lawS6453AFullRow.laid ((World.doorLaid Ybaf.prog 400 os).forCall (fun _ _ => 0) ⟨#[], args, []⟩).memory :=
  laidMetH_of_parts3 (fuel := 8) (laidMet_of_run' 8 (by kernel_rfl) (by kernel_rfl)) (by kernel_rfl) (by kernel_rfl)

theorem witness_row (os : Os) {H : Type} (enc : TypeId × Value → H) :
    (OpenSpec.ofChange Rows.lawS6453AFullSpec).preRow enc Ybaf.prog Ybaf.f4 Rows.lawS6453AFullRow.domain false Rows.lawS6453AFullRow.laid ((World.doorLaid Ybaf.prog 400 os).forCall (fun _ _ => 0) ⟨#[], #[.agg #[.int .i64 0, .int .i64 0, .int .i64 0, .int .u64 0, .int .i64 0, .int .i64 0, .bool false, .slice none 0 0, .int .i64 0], .int .i64 0, .float .f64 0], []⟩).memory
      #[.agg #[.int .i64 0, .int .i64 0, .int .i64 0, .int .u64 0, .int .i64 0, .int .i64 0, .bool false, .slice none 0 0, .int .i64 0], .int .i64 0, .float .f64 0] :=
  OpenSpec.preRow_of_B rfl 8 (by kernel_rfl) (by kernel_rfl) (door_met os _)

set_option maxRecDepth 100000 in
theorem lifted (os : Os) (started : os.Started) (H : Type) (enc : TypeId × Value → H) :
    ReturnsInTold none {} Ybaf.checked os 4 .any Input.okWide ((OpenSpec.ofChange Rows.lawS6453AFullSpec).preRow enc Ybaf.prog Ybaf.f4 Rows.lawS6453AFullRow.domain false Rows.lawS6453AFullRow.laid)
      (fun F => ((OpenSpec.ofChange Rows.lawS6453AFullSpec).at F).post enc Ybaf.prog Ybaf.f4 false true false false) (aloneAtReturn Ybaf.prog) nothingAlways := by
  refine returnsInTold_of_row (C := Ybaf.checked) (s := OpenSpec.ofChange Rows.lawS6453AFullSpec) (by kernel_rfl) own started (by kernel_rfl) Ybaf.func4
    (OpenSpec.witness_stopped_atRef (enc := enc) (C := Ybaf.checked) false (World.doorLaid Ybaf.prog 400 os) _ rfl (by kernel_rfl) (by kernel_rfl) (by kernel_rfl) (witness_row os enc)) ?_
  intro F W base args ds gs before _ hF hval0 hW _ _ hsz hL _
  have hval : ∀ (j : Nat) t v, Ybaf.f4.params[j]? = some t → args[j]? = some v → Value.okWide Ybaf.prog W .any base t v := hval0
  have hW' := hW
  obtain ⟨p, q, hA0, hV0, rfl, hfz, hnd⟩ := hW
  have hA : DataW.TrodAll enc Ybaf.prog W 0 (fun _ => true) true Ybaf.f4.params.toList args.toList ds p := hA0
  have hV : DataW.TrodVars enc Ybaf.prog W (fun _ => true) [nm] gs q := hV0
  rw [Ybaf.params4] at hA hval
  obtain ⟨v0, v1, v2, d0, d1, d2, p0, p1, p2, rfl, rfl, rfl, h0, h1, h2⟩ := trodAll_three hA
  obtain ⟨x0, hv0⟩ := of_laid hL
  obtain ⟨rfl, rfl⟩ := hV.unique (vars_read1 enc g0 t0 Ybaf.underlying35 hv0 trivial _)
  have lt0 : ∀ x ∈ p0, x.block < W.heap.size := by obtain ⟨m, hm⟩ := h0; exact DataW.trod_lt m _ _ _ hm
  have lt2 : ∀ x ∈ p2, x.block < W.heap.size := by obtain ⟨m, hm⟩ := h2; exact DataW.trod_lt m _ _ _ hm
  have k0 := h0
  obtain ⟨b0, b1, b2, b3, b4, b5, st, ad, len, cap, f, fr, rfl, hb, hw⟩ := opened (hval 0 48 v0 rfl rfl) h0
  have hlen : len ≤ 140737488351232 := hw (List.all_eq_true.2 fun x hx => List.all_eq_true.1 hsz x (DataW.weights_mem_each (j := 0) (t := 48) rfl rfl x hx))
  obtain ⟨a1, rfl, rfl, rfl, w1⟩ := open_int Ybaf.underlying2 (hval 1 2 v1 rfl rfl) h1
  clear hA0 hV0 hval0
  have hc0 : W.cell? ⟨0, 0, none⟩ = some (.iface 71 (.pointer (some x0))) := by simpa using World.var?_cell g0 hv0 0
  have hpos : 0 < W.heap.size := by
    rcases Nat.lt_or_ge 0 W.heap.size with h | h
    · exact h
    · simp [World.cell?, Array.getElem?_eq_none h] at hc0
  refine (full_walk b0 b1 b2 b3 b4 b5 fr a1 st ad len cap f v2 W hlen hb x0 hc0 hpos).mono fun e W' ⟨he, bel⟩ => ?_
  subst he
  refine ⟨_, rfl, _, _, _, [], p0 ++ ([] ++ p2), [.cell 0 0], hW', ?_, ?_, ?_, bel.frame _, fun h => by cases h⟩
  · exact trodAll_mk1 (shut_bool Ybaf.underlying4 _)
  · exact trodAll_mk3 (Below.trod laidOut (by kernel_rfl) (of_decide_eq_true (by kernel_rfl)) k0 bel lt0) (shut_int Ybaf.underlying2 w1) (Below.trod laidOut (by kernel_rfl) (of_decide_eq_true (by kernel_rfl)) h2 bel lt2)
  · exact vars_read1 enc g0 t0 Ybaf.underlying35 (var?_below bel g0 (by omega) hv0) trivial _

theorem stopKnobs : Ybaf.pinned.checked.prog.stopKnobs = [] := by kernel_rfl
theorem quiet (os : Os) : Stop.quiet Ybaf.pinned.checked.prog os := by
  intro k hk
  rw [stopKnobs] at hk
  cases hk

/-- ████ THE STATEMENT ████ -/
theorem proved : Rows.LawS6453AFullToldSaid :=
  Claim7.holds_of_told_tied_any_at .later 4 Ybaf.f4 "fmt.errorf" [] [] _ _ _ _ _ (by kernel_rfl) rfl rfl rfl laidOut (by kernel_rfl) rfl ⟨rfl, rfl, rfl, rfl, rfl, rfl, rfl⟩ rfl rfl (by kernel_rfl) (by kernel_rfl) Ybaf.func4 (by kernel_rfl)
    (of_decide_eq_true (by kernel_rfl)) (of_decide_eq_true (by kernel_rfl)) (by kernel_rfl) rfl stopKnobs.symm (by kernel_rfl)
    (by kernel_rfl) (by kernel_rfl) (by kernel_rfl) (by kernel_rfl) (by kernel_rfl) (by kernel_rfl) (by kernel_rfl) (by kernel_rfl) (by kernel_rfl) rfl (by kernel_rfl) rfl rfl
    rfl rfl
    rfl (by kernel_rfl) (by kernel_rfl) (by kernel_rfl) (by decide) (by kernel_rfl) lawS6453AFull_row_tie
    (OpenClaim.moreEntering_of (by kernel_rfl) (by kernel_rfl) (by kernel_rfl) (by kernel_rfl) (by kernel_rfl) (by kernel_rfl) (by kernel_rfl) (by kernel_rfl) (by kernel_rfl) (by kernel_rfl))
    ⟨_, WideRow.started_initial, quiet _⟩
    (fun os started _ H enc _ => lifted os started H enc)
end Go.Proofs.YbulkecpsFmt.lawS6453AFull
