import Derived.Test.YbulkecqgFmtWalks
import Derived.Test.YbulkecqgFmtTie
import Derived.Test.YbulkecqgFmtCards
import Derived.ChangeOld
import Derived.Below
import Derived.LaidMore
import Derived.LaidLaws
import Derived.Stop.Joined
import Derived.SevenTiedAt
import Derived.WalkSmall
import Derived.Stop.JoinedTold
import Derived.Deep.DeepWitnessRef
import Derived.Deep.Slices
import Derived.Deep.Strs
namespace Go.Proofs.YbulkecqgFmt.lawS6454CEndpoint
open Go Go.ChangeShapes Go.WideShapes Go.ChangeAt Go.RowKit Go.Deep Go.Stop
set_option linter.unusedVariables false

theorem own : ownKnob Ybaf.prog.godebug = none := by kernel_rfl
theorem laidOut : laidOutB Ybaf.prog = true := by kernel_rfl

/-- The variable's name, as the row lists it. -/
def nm : String := Rows.lawS6454CEndpointSpec.vars.getD 0 ""
theorem g0 : Ybaf.prog.globalNamed nm = some 0 := by kernel_rfl
/-- The other one's. -/
def nm1 : String := Rows.lawS6454CEndpointSpec.vars.getD 1 ""
theorem g1 : Ybaf.prog.globalNamed nm1 = some 1 := by kernel_rfl
theorem t1 : (Ybaf.prog.globals[1]?).map (·.type) = some 22 := by kernel_rfl
theorem t0 : (Ybaf.prog.globals[0]?).map (·.type) = some 29 := by kernel_rfl
theorem cells31 : Ybaf.prog.cellsOf 31 = 3 := by kernel_rfl
theorem cells9 : Ybaf.prog.cellsOf 9 = 1 := by kernel_rfl
theorem cells4 : Ybaf.prog.cellsOf 4 = 1 := by kernel_rfl

/-- One row of the table, read. -/
theorem row_of {W : World} {a : Addr} {H : Type} {enc : TypeId × Value → H} {held : Bool} {n : Nat} {cs : List Value} {d1 d2 d3 : DataW H} {pl : List MemPlace} {s u : ByteArray} (hd1 : d1 = .lit (.string s.data.toList)) (hd2 : d2 = .lit (.string u.data.toList))
    (hc : W.cells? 0 a 3 = some cs) (h : DataW.trod enc Ybaf.prog W 0 (fun _ => true) held n 31 cs = some (.agg [d1, d2, d3], pl)) :
    W.cell? (a.add 0) = some (.string s) ∧ W.cell? (a.add 1) = some (.string u) ∧ ∃ b, W.cell? (a.add 2) = some (.bool b) := by
  obtain ⟨_, hl, hcell⟩ := World.cells?_some hc
  obtain ⟨c0, c1, c2, rfl⟩ : ∃ a b c, cs = [a, b, c] := by
    match cs, hl with
    | [a, b, c], _ => exact ⟨a, b, c, rfl⟩
  obtain ⟨y0, y1, y2, m, hx, _, e0, e1, e2⟩ := trod_struct3 Ybaf.underlying31 h
  simp [cells9, cells4] at e0 e1 e2
  obtain ⟨s0, r0, r0', _⟩ := DataW.trod_string Ybaf.underlying9 e0
  obtain ⟨s1, r1, r1', _⟩ := DataW.trod_string Ybaf.underlying9 e1
  obtain ⟨b2, r2, _⟩ := DataW.trod_bool Ybaf.underlying4 e2
  simp at r0 r1 r2
  subst r0 r1 r2
  have k0 := hcell 0 (by omega)
  have k1 := hcell 1 (by omega)
  have k2 := hcell 2 (by omega)
  simp at k0 k1 k2 hx
  have hs : s0 = s := by
    have hq := hx.1.1
    rw [hd1, r0'] at hq
    simp at hq
    exact ByteArray.ext (Array.ext' (by rw [hq]))
  have hs1 : s1 = u := by
    have hq := hx.1.2.1
    rw [hd2, r1'] at hq
    simp at hq
    exact ByteArray.ext (Array.ext' (by rw [hq]))
  subst hs hs1
  exact ⟨k0, k1, b2, k2⟩

/-- WHAT THE CONDITION GIVES THE WALK: the table in memory. -/
theorem of_laid {W : World} (h : laidMetH Ybaf.prog Rows.lawS6454CEndpointRow.laid W) :
    ∃ tb to, W.var? Ybaf.prog nm = some #[.slice (some ⟨tb, to, none⟩) 6 6] ∧ Table W tb to := by
  rw [MakeChecks.laidMetH_plain _ _ _ (by kernel_rfl)] at h
  obtain ⟨ps, ⟨g, t, cs, fu, p, q, hg, ht, hv, hd, _, _⟩, _, _⟩ := h
  obtain rfl := Option.some.inj (g0.symm.trans hg)
  obtain rfl := Option.some.inj (t0.symm.trans ht)
  rcases open_slice Ybaf.underlying29 hd with ⟨_, hx⟩ | ⟨a, len, cap, m, n, D, Pl, hcs, _, hl, _, hm, hx, hel⟩
  · simp [Rows.laid_example_com_otsukai_otsukai_productHosts] at hx
  simp only [if_true] at hm
  subst hm
  simp only [Prod.mk.injEq] at hx
  have hx1 := hx.1
  simp only [Rows.laid_example_com_otsukai_otsukai_productHosts, DataW.slice.injEq] at hx1
  have hlen : len = 6 := by have := congrArg List.length hx1.1; simpa using this.symm
  have hcap : m = 6 := by have := congrArg List.length hx1.2; simp at this; omega
  subst hlen hcap
  obtain ⟨l⟩ := cs
  simp at hcs
  subst hcs
  have hcell := World.var?_cell hg hv 0
  simp at hcell
  have hpos : 0 < W.heap.size := by
    rcases Nat.lt_or_ge 0 W.heap.size with h | h
    · exact h
    · simp [World.cell?, Array.getElem?_eq_none h] at hcell
  have rows : ∀ i, i < 6 → W.cell? ((a.add (i * 3)).add 0) = some (.string (nameOf i)) ∧ W.cell? ((a.add (i * 3)).add 1) = some (.string (domOf i)) ∧ ∃ b, W.cell? ((a.add (i * 3)).add 2) = some (.bool b) := fun i hi => by
    obtain ⟨cs', h1, h2⟩ := hel i hi
    rw [cells31] at h1
    have hD := congrArg (·[i]?) hx1.1
    have : i = 0 ∨ i = 1 ∨ i = 2 ∨ i = 3 ∨ i = 4 ∨ i = 5 := by omega
    rcases this with rfl | rfl | rfl | rfl | rfl | rfl <;> (simp at hD; rw [← hD] at h2; exact row_of rfl rfl h1 h2)
  obtain ⟨b, off, sp⟩ := a
  obtain rfl : sp = none := by
    have := (rows 0 (by omega)).1
    simpa [Addr.add] using World.cell?_spot this
  simp only [Addr.add_lit, Nat.add_zero] at rows
  refine ⟨b, off, hv, hcell, hpos, ?_, rows⟩
  have := (rows 0 (by omega)).1
  rcases Nat.lt_or_ge b W.heap.size with h | h
  · exact h
  · simp [World.cell?, Array.getElem?_eq_none h] at this

/-- The door's own heap meets the condition: three closed facts. -/
theorem door_met (os : Os) (args : Array Value) : laidMetH Ybaf.prog Rows.lawS6454CEndpointRow.laid ((World.doorLaid Ybaf.prog 400 os).forCall (fun _ _ => 0) ⟨#[], args, []⟩).memory :=
  laidMetH_of_parts3 (fuel := 8) (laidMet_of_run' 8 (by kernel_rfl) (by kernel_rfl)) (by kernel_rfl) (by kernel_rfl)

theorem witness_row (os : Os) {H : Type} (enc : TypeId × Value → H) :
    (OpenSpec.ofChange Rows.lawS6454CEndpointSpec).preRow enc Ybaf.prog Ybaf.f3 Rows.lawS6454CEndpointRow.domain false Rows.lawS6454CEndpointRow.laid ((World.doorLaid Ybaf.prog 400 os).forCall (fun _ _ => 0) ⟨#[], #[], []⟩).memory #[] :=
  OpenSpec.preRow_of_B rfl 8 (by kernel_rfl) (by kernel_rfl) (door_met os _)

set_option maxRecDepth 100000 in
theorem lifted (os : Os) (started : os.Started) (H : Type) (enc : TypeId × Value → H) :
    ReturnsInTold none {} Ybaf.checked os 3 .any Input.okWide ((OpenSpec.ofChange Rows.lawS6454CEndpointSpec).preRow enc Ybaf.prog Ybaf.f3 Rows.lawS6454CEndpointRow.domain false Rows.lawS6454CEndpointRow.laid)
      (fun F => ((OpenSpec.ofChange Rows.lawS6454CEndpointSpec).at F).post enc Ybaf.prog Ybaf.f3 false true false false) (aloneAtReturn Ybaf.prog) nothingAlways := by
  refine returnsInTold_of_row (C := Ybaf.checked) (s := OpenSpec.ofChange Rows.lawS6454CEndpointSpec) (by kernel_rfl) own started (by kernel_rfl) Ybaf.func3
    (OpenSpec.witness_stopped_atRef (enc := enc) (C := Ybaf.checked) false (World.doorLaid Ybaf.prog 400 os) _ rfl (by kernel_rfl) (by kernel_rfl) (by kernel_rfl) (witness_row os enc)) ?_
  intro F W base args ds gs before _ hF hval0 hW _ _ hsz hL _
  have hW' := hW
  obtain ⟨p, q, hA0, hV0, rfl, hfz, hnd⟩ := hW
  have hA : DataW.TrodAll enc Ybaf.prog W 0 (fun _ => true) true Ybaf.f3.params.toList args.toList ds p := hA0
  have hV : DataW.TrodVars enc Ybaf.prog W (fun _ => true) [nm, nm1] gs q := hV0
  rw [Ybaf.params3] at hA
  obtain ⟨rfl, rfl, rfl⟩ := trodAll_none hA
  obtain ⟨tb, to, hv, hT⟩ := of_laid hL
  match gs, hV with
  | [d, d'], hV =>
    obtain ⟨g, t, cs, fu, pd, q', hg, ht, hv', hd, ⟨g', t', cs', fu2, pd', q2, hg', ht', hv2, hd2, hq2, rfl⟩, rfl⟩ := hV
    obtain rfl := Option.some.inj (g0.symm.trans hg)
    obtain rfl := Option.some.inj (t0.symm.trans ht)
    obtain rfl := Option.some.inj (g1.symm.trans hg')
    obtain rfl := Option.some.inj (t1.symm.trans ht')
    obtain rfl := Option.some.inj (hv.symm.trans hv')
    have hq0 : q2 = [] := hq2
    subst hq0
    obtain ⟨v1, hcs1⟩ : ∃ v : Value, cs' = #[v] ∧ v.cells.toList = [v] := by
      obtain ⟨l⟩ := cs'
      rcases open_slice Ybaf.underlying22 hd2 with ⟨hcs, _⟩ | ⟨a, len, cap, m, n, D, Pl, hcs, _⟩
      · simp at hcs; subst hcs; exact ⟨_, rfl, rfl⟩
      · simp at hcs; subst hcs; exact ⟨_, rfl, rfl⟩
    obtain ⟨rfl, hv1⟩ := hcs1
    have k0 : DataW.Trod enc Ybaf.prog W 0 (fun _ => true) true 29 (.slice (some ⟨tb, to, none⟩) 6 6) d pd := ⟨fu, hd⟩
    have k1 : DataW.Trod enc Ybaf.prog W 0 (fun _ => true) true 22 v1 d' pd' := ⟨fu2, by rw [hv1]; exact hd2⟩
    have lt0 : ∀ x ∈ pd, x.block < W.heap.size := DataW.trod_lt fu _ _ _ hd
    have lt1 : ∀ x ∈ pd', x.block < W.heap.size := DataW.trod_lt fu2 _ _ _ hd2
    have hlt1 : 1 < W.heap.size := by
      rcases Nat.lt_or_ge 1 W.heap.size with h | h
      · exact h
      · have := World.var?_cell hg' hv2 0
        simp [World.cell?, Array.getElem?_eq_none h] at this
    clear hA0 hV0 hval0
    refine (law_any tb to W hT).mono fun e W' ⟨he, bel⟩ => ?_
    subst he
    obtain ⟨fu', hd'⟩ := Below.trod laidOut (by kernel_rfl) (of_decide_eq_true (by kernel_rfl)) k0 bel lt0
    obtain ⟨fu2', hd2'⟩ := Below.trod laidOut (by kernel_rfl) (of_decide_eq_true (by kernel_rfl)) k1 bel lt1
    rw [hv1] at hd2'
    refine ⟨_, rfl, _, _, _, [], [], MemPlace.row ⟨0, 0, none⟩ 1 ++ pd ++ (MemPlace.row ⟨1, 0, none⟩ 1 ++ pd' ++ []), hW', ?_, ?_, ?_, bel.frame _, fun h => by cases h⟩
    · exact trodAll_mk1 (shut_bool Ybaf.underlying4 _)
    · exact trodAll_mk0
    · exact ⟨0, 29, #[.slice (some ⟨tb, to, none⟩) 6 6], fu', pd, _, g0, t0, var?_below bel g0 hT.2.1 hv, hd', ⟨1, 22, #[v1], fu2', pd', [], g1, t1, var?_below bel g1 hlt1 hv2, hd2', rfl, rfl⟩, rfl⟩

theorem stopKnobs : Ybaf.pinned.checked.prog.stopKnobs = [] := by kernel_rfl
theorem quiet (os : Os) : Stop.quiet Ybaf.pinned.checked.prog os := by
  intro k hk
  rw [stopKnobs] at hk
  cases hk

/-- ████ THE STATEMENT ████ -/
theorem proved : Rows.LawS6454CEndpointToldSaid :=
  Claim7.holds_of_told_tied_any_at .later 3 Ybaf.f3 "fmt.errorf" [] [] _ _ _ _ _ (by kernel_rfl) rfl rfl rfl laidOut (by kernel_rfl) rfl ⟨rfl, rfl, rfl, rfl, rfl, rfl, rfl⟩ rfl rfl (by kernel_rfl) (by kernel_rfl) Ybaf.func3 (by kernel_rfl)
    (of_decide_eq_true (by kernel_rfl)) (of_decide_eq_true (by kernel_rfl)) (by kernel_rfl) rfl stopKnobs.symm (by kernel_rfl)
    (by kernel_rfl) (by kernel_rfl) (by kernel_rfl) (by kernel_rfl) (by kernel_rfl) (by kernel_rfl) (by kernel_rfl) (by kernel_rfl) (by kernel_rfl) rfl (by kernel_rfl) rfl rfl
    rfl rfl
    rfl (by kernel_rfl) (by kernel_rfl) (by kernel_rfl) (by decide) (by kernel_rfl) lawS6454CEndpoint_row_tie
    (OpenClaim.moreEntering_of (by kernel_rfl) (by kernel_rfl) (by kernel_rfl) (by kernel_rfl) (by kernel_rfl) (by kernel_rfl) (by kernel_rfl) (by kernel_rfl) (by kernel_rfl) (by kernel_rfl))
    ⟨_, WideRow.started_initial, quiet _⟩
    (fun os started _ H enc _ => lifted os started H enc)
end Go.Proofs.YbulkecqgFmt.lawS6454CEndpoint
