import Derived.Test.YbulkecqgDoorWalks
import Derived.Test.YbulkecqgDoorTie
import Derived.Test.YbulkecqgDoorCards
import Derived.ChangeOld
import Derived.Below
import Derived.LaidMore
import Derived.LaidLaws
import Derived.Stop.Joined
import Derived.SevenTiedAt
import Derived.WalkSmall
import Derived.Deep.Slices
import Derived.Deep.Strs
namespace Go.Proofs.YbulkecqgDoor.lawS6454CWhole
open Go Go.ChangeShapes Go.WideShapes Go.ChangeAt Go.RowKit Go.Deep
set_option linter.unusedVariables false

theorem own : ownKnob Ybad.prog.godebug = none := by kernel_rfl
theorem laidOut : laidOutB Ybad.prog = true := by kernel_rfl

/-- The variable's name, as the row lists it. -/
def nm : String := Rows.lawS6454CWholeSpec.vars.getD 0 ""
theorem g0 : Ybad.prog.globalNamed nm = some 0 := by kernel_rfl
theorem t0 : (Ybad.prog.globals[0]?).map (·.type) = some 26 := by kernel_rfl
theorem cells28 : Ybad.prog.cellsOf 28 = 3 := by kernel_rfl
theorem cells9 : Ybad.prog.cellsOf 9 = 1 := by kernel_rfl
theorem cells4 : Ybad.prog.cellsOf 4 = 1 := by kernel_rfl

/-- One row of the table, read. -/
theorem row_of {W : World} {a : Addr} {H : Type} {enc : TypeId × Value → H} {held : Bool} {n : Nat} {cs : List Value} {d1 d2 d3 : DataW H} {pl : List MemPlace} {s : ByteArray} (hd1 : d1 = .lit (.string s.data.toList))
    (hc : W.cells? 0 a 3 = some cs) (h : DataW.trod enc Ybad.prog W 0 (fun _ => true) held n 28 cs = some (.agg [d1, d2, d3], pl)) :
    W.cell? (a.add 0) = some (.string s) ∧ (∃ s, W.cell? (a.add 1) = some (.string s)) ∧ ∃ b, W.cell? (a.add 2) = some (.bool b) := by
  obtain ⟨_, hl, hcell⟩ := World.cells?_some hc
  obtain ⟨c0, c1, c2, rfl⟩ : ∃ a b c, cs = [a, b, c] := by
    match cs, hl with
    | [a, b, c], _ => exact ⟨a, b, c, rfl⟩
  obtain ⟨y0, y1, y2, m, hx, _, e0, e1, e2⟩ := trod_struct3 Ybad.underlying28 h
  simp [cells9, cells4] at e0 e1 e2
  obtain ⟨s0, r0, r0', _⟩ := DataW.trod_string Ybad.underlying9 e0
  obtain ⟨s1, r1, _, _⟩ := DataW.trod_string Ybad.underlying9 e1
  obtain ⟨b2, r2, _⟩ := DataW.trod_bool Ybad.underlying4 e2
  simp at r0 r1 r2
  subst r0 r1 r2
  have k0 := hcell 0 (by omega)
  have k1 := hcell 1 (by omega)
  have k2 := hcell 2 (by omega)
  simp at k0 k1 k2 hx
  have hs : s0 = s := by
    have hq := hx.1.1
    rw [hd1, r0'] at hq
    simp at hq
    exact ByteArray.ext (Array.ext' (by rw [hq]))
  subst hs
  exact ⟨k0, ⟨s1, k1⟩, b2, k2⟩

/-- WHAT THE CONDITION GIVES THE WALK: the table in memory. -/
theorem of_laid {W : World} (h : laidMetH Ybad.prog Rows.lawS6454CWholeRow.laid W) :
    ∃ tb to, W.var? Ybad.prog nm = some #[.slice (some ⟨tb, to, none⟩) 6 6] ∧ Table W tb to := by
  rw [MakeChecks.laidMetH_plain _ _ _ (by kernel_rfl)] at h
  obtain ⟨ps, ⟨g, t, cs, fu, p, q, hg, ht, hv, hd, _, _⟩, _, _⟩ := h
  obtain rfl := Option.some.inj (g0.symm.trans hg)
  obtain rfl := Option.some.inj (t0.symm.trans ht)
  rcases open_slice Ybad.underlying26 hd with ⟨_, hx⟩ | ⟨a, len, cap, m, n, D, Pl, hcs, _, hl, _, hm, hx, hel⟩
  · simp [Rows.laid_example_com_otsukai_otsukai_productHosts] at hx
  simp only [if_true] at hm
  subst hm
  simp only [Prod.mk.injEq] at hx
  have hx1 := hx.1
  simp only [Rows.laid_example_com_otsukai_otsukai_productHosts, DataW.slice.injEq] at hx1
  have hlen : len = 6 := by have := congrArg List.length hx1.1; simpa using this.symm
  have hcap : m = 6 := by have := congrArg List.length hx1.2; simp at this; omega
  subst hlen hcap
  obtain ⟨l⟩ := cs
  simp at hcs
  subst hcs
  have hcell := World.var?_cell hg hv 0
  simp at hcell
  have hpos : 0 < W.heap.size := by
    rcases Nat.lt_or_ge 0 W.heap.size with h | h
    · exact h
    · simp [World.cell?, Array.getElem?_eq_none h] at hcell
  have rows : ∀ i, i < 6 → W.cell? ((a.add (i * 3)).add 0) = some (.string (nameOf i)) ∧ (∃ s, W.cell? ((a.add (i * 3)).add 1) = some (.string s)) ∧ ∃ b, W.cell? ((a.add (i * 3)).add 2) = some (.bool b) := fun i hi => by
    obtain ⟨cs', h1, h2⟩ := hel i hi
    rw [cells28] at h1
    have hD := congrArg (·[i]?) hx1.1
    have : i = 0 ∨ i = 1 ∨ i = 2 ∨ i = 3 ∨ i = 4 ∨ i = 5 := by omega
    rcases this with rfl | rfl | rfl | rfl | rfl | rfl <;> (simp at hD; rw [← hD] at h2; exact row_of rfl h1 h2)
  obtain ⟨b, off, sp⟩ := a
  obtain rfl : sp = none := by
    have := (rows 0 (by omega)).1
    simpa [Addr.add] using World.cell?_spot this
  simp only [Addr.add_lit, Nat.add_zero] at rows
  refine ⟨b, off, hv, hcell, hpos, ?_, rows⟩
  have := (rows 0 (by omega)).1
  rcases Nat.lt_or_ge b W.heap.size with h | h
  · exact h
  · simp [World.cell?, Array.getElem?_eq_none h] at this

/-- The door's own heap meets the condition: three closed facts. -/
theorem door_met (os : Os) (args : Array Value) : laidMetH Ybad.prog Rows.lawS6454CWholeRow.laid ((World.doorLaid Ybad.prog 400 os).forCall (fun _ _ => 0) ⟨#[], args, []⟩).memory :=
  laidMetH_of_parts3 (fuel := 8) (laidMet_of_run' 8 (by kernel_rfl) (by kernel_rfl)) (by kernel_rfl) (by kernel_rfl)

set_option maxRecDepth 100000 in
theorem lifted (os : Os) (started : os.Started) (H : Type) (enc : TypeId × Value → H) :
    ReturnsInHanded {} Ybad.checked os 3 .any (fun w args => (Rows.lawS6454CWholeSpec.pre enc Ybad.prog Ybad.f3 [] false w args ∧ laidMetH Ybad.prog Rows.lawS6454CWholeRow.laid w) ∧ sizedMet enc Ybad.prog Ybad.f3 (OpenSpec.ofChange Rows.lawS6454CWholeSpec) false w args)
      (Rows.lawS6454CWholeSpec.post enc Ybad.prog Ybad.f3 false true false false) := by
  refine returnsInHanded_of_change_and (C := Ybad.checked) (X := fun w _ => laidMetH Ybad.prog Rows.lawS6454CWholeRow.laid w) (fun _ _ _ hh h => h.of_heap hh) own started (by kernel_rfl) Ybad.func3
    (ChangeSpec.witness_shaped (enc := enc) (C := Ybad.checked) (os := os) (X := fun w _ => laidMetH Ybad.prog Rows.lawS6454CWholeRow.laid w) false (World.doorLaid Ybad.prog 400 os) #[] 8 rfl (World.shaped_of_RefB (by kernel_rfl) (by kernel_rfl)) (by kernel_rfl) (by kernel_rfl) (by kernel_rfl) (door_met os _)) ?_
  intro W base args ds gs before hval0 hW _ _ hL _
  have hW' := hW
  obtain ⟨p, q, hA0, hV0, rfl, hfz, hnd⟩ := hW
  have hA : DataW.TrodAll enc Ybad.prog W 0 (fun _ => true) true Ybad.f3.params.toList args.toList ds p := hA0
  have hV : DataW.TrodVars enc Ybad.prog W (fun _ => true) [nm] gs q := hV0
  rw [Ybad.params3] at hA
  obtain ⟨rfl, rfl, rfl⟩ := trodAll_none hA
  obtain ⟨tb, to, hv, hT⟩ := of_laid hL
  match gs, hV with
  | [d], hV =>
    obtain ⟨g, t, cs, fu, pd, q', hg, ht, hv', hd, hq', rfl⟩ := hV
    obtain rfl := Option.some.inj (g0.symm.trans hg)
    obtain rfl := Option.some.inj (t0.symm.trans ht)
    obtain rfl := Option.some.inj (hv.symm.trans hv')
    have hq0 : q' = [] := hq'
    subst hq0
    have k0 : DataW.Trod enc Ybad.prog W 0 (fun _ => true) true 26 (.slice (some ⟨tb, to, none⟩) 6 6) d pd := ⟨fu, hd⟩
    have lt0 : ∀ x ∈ pd, x.block < W.heap.size := DataW.trod_lt fu _ _ _ hd
    clear hA0 hV0 hval0
    refine (law_any tb to W hT).mono fun e W' ⟨he, bel⟩ => ?_
    subst he
    obtain ⟨fu', hd'⟩ := Below.trod laidOut (by kernel_rfl) (of_decide_eq_true (by kernel_rfl)) k0 bel lt0
    refine ⟨_, rfl, _, _, _, [], [], MemPlace.row ⟨0, 0, none⟩ 1 ++ pd ++ [], hW', ?_, ?_, ?_, bel.frame _, fun h => by cases h⟩
    · exact trodAll_mk1 (shut_bool Ybad.underlying4 _)
    · exact trodAll_mk0
    · exact ⟨0, 26, #[.slice (some ⟨tb, to, none⟩) 6 6], fu', pd, [], g0, t0, var?_below bel g0 hT.2.1 hv, hd', rfl, rfl⟩

theorem over : Rows.LawS6454CWholeSaid :=
  OpenClaim.holds_of_wide 3 Ybad.f3 rfl rfl rfl rfl rfl rfl rfl ⟨rfl, rfl, rfl, rfl, rfl⟩ rfl rfl rfl rfl rfl (by kernel_rfl) Ybad.func3 (by kernel_rfl)
    (of_decide_eq_true (by kernel_rfl)) (by unfold Func.isWrapper; first | (rw [if_pos (by decide +kernel)]; kernel_rfl) | (rw [if_neg (by decide +kernel)]; exact ⟨rfl, rfl⟩))
    (fun os started H enc _ => lifted os started H enc)

/-- ████ THE STATEMENT ████ -/
theorem proved : Rows.LawS6454CWholeCardSaid :=
  Claim7.holds_tied_plain_at .later [] [.widerDeep] true Rows.lawS6454CWholeCard.stood.harness false
    over (fun _ h => by cases h) (by kernel_rfl) (fun _ h => by cases h) lawS6454CWhole_row_tie rfl ⟨rfl, rfl⟩ (by kernel_rfl) rfl
    (fun f fn hf hfn => by
      obtain rfl : f = 3 := Option.some.inj ((show Ybad.prog.funcNamed Rows.lawS6454CWholeRow.func = some 3 by kernel_rfl).symm.trans hf) |>.symm
      obtain rfl : fn = Ybad.f3 := (Option.some.inj (Ybad.func3.symm.trans hfn)).symm
      exact ⟨by kernel_rfl, fun j t ht => by
        rw [Ybad.params3] at ht
        simp at ht⟩)
    (by kernel_rfl)
end Go.Proofs.YbulkecqgDoor.lawS6454CWhole
