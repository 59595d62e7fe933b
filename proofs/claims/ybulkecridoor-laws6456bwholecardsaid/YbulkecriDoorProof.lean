import Derived.Test.YbulkecriDoorLaw
import Derived.Test.YbulkecriDoorTie
import Derived.Test.YbulkecriDoorCards
import Derived.ChangeOld
import Derived.Below
import Derived.LaidMore
import Derived.LaidLaws
import Derived.Stop.Joined
import Derived.SevenTiedAt
import Derived.WalkSmall
import Derived.Deep.Slices
import Derived.Deep.Strs
namespace Go.Proofs.YbulkecriDoor.lawS6456BWhole
open Go Go.ChangeShapes Go.WideShapes Go.ChangeAt Go.RowKit Go.Deep
set_option linter.unusedVariables false

theorem own : ownKnob Ybad.prog.godebug = none := by kernel_rfl
theorem laidOut : laidOutB Ybad.prog = true := by kernel_rfl

/-- The variable's name, as the row lists it. -/
def nm : String := Rows.lawS6456BWholeSpec.vars.getD 0 ""
theorem g0 : Ybad.prog.globalNamed nm = some 0 := by kernel_rfl
theorem t0 : (Ybad.prog.globals[0]?).map (·.type) = some 43 := by kernel_rfl
theorem cells42 : Ybad.prog.cellsOf 42 = 3 := by kernel_rfl
theorem cells43 : Ybad.prog.cellsOf 43 = 9 := by kernel_rfl
theorem cells9 : Ybad.prog.cellsOf 9 = 1 := by kernel_rfl
theorem cells4 : Ybad.prog.cellsOf 4 = 1 := by kernel_rfl

/-- One row of the table, read: its third cell. -/
theorem row_of {W : World} {H : Type} {enc : TypeId × Value → H} {held : Bool} {n : Nat} {c0 c1 c2 : Value} {d1 d2 : DataW H} {b : Bool} {pl : List MemPlace}
    (h : DataW.trod enc Ybad.prog W 0 (fun _ => true) held n 42 [c0, c1, c2] = some (.agg [d1, d2, .lit (.bool b)], pl)) : c2 = .bool b := by
  obtain ⟨y0, y1, y2, m, hx, _, e0, e1, e2⟩ := trod_struct3 Ybad.underlying42 h
  simp [cells4] at e2
  obtain ⟨b2, r2, r3⟩ := DataW.trod_bool Ybad.underlying4 e2
  simp at r2 hx
  rw [r3] at hx
  simp at hx
  rw [r2, hx.1.2.2]

theorem nine {α : Type} {l : List α} (h : l.length = 9) : ∃ a b c d e f g i j, l = [a, b, c, d, e, f, g, i, j] := by
  match l, h with
  | [a, b, c, d, e, f, g, i, j], _ => exact ⟨a, b, c, d, e, f, g, i, j, rfl⟩

/-- WHAT THE CONDITION GIVES THE WALK: the table's three signs. -/
theorem of_laid {W : World} (h : laidMetH Ybad.prog Rows.lawS6456BWholeRow.laid W) :
    ∃ cs, W.var? Ybad.prog nm = some cs ∧ W.cell? ⟨0, 2, none⟩ = some (.bool false) ∧ W.cell? ⟨0, 5, none⟩ = some (.bool false) ∧ W.cell? ⟨0, 8, none⟩ = some (.bool true) := by
  rw [MakeChecks.laidMetH_plain _ _ _ (by kernel_rfl)] at h
  obtain ⟨ps, ⟨g, t, cs, fu, p, q, hg, ht, hv, hd, _, _⟩, _, _⟩ := h
  obtain rfl := Option.some.inj (g0.symm.trans hg)
  obtain rfl := Option.some.inj (t0.symm.trans ht)
  obtain ⟨xs, m1, rfl, hx1, hlen, hn3, hel⟩ := DataW.trod_array Ybad.underlying43 hd
  refine ⟨cs, hv, ?_⟩
  have k2 := World.var?_cell hg hv 2
  have k5 := World.var?_cell hg hv 5
  have k8 := World.var?_cell hg hv 8
  obtain ⟨l⟩ := cs
  rw [cells43] at hlen
  obtain ⟨a0, a1, a2, a3, a4, a5, a6, a7, a8, rfl⟩ := nine hlen
  have e0 := hel 0 (by decide)
  have e1 := hel 1 (by decide)
  have e2 := hel 2 (by decide)
  simp only [cells42] at e0 e1 e2
  obtain ⟨y0, y1, y2, rfl⟩ : ∃ a b c, xs = [a, b, c] := by
    match xs, hn3 with
    | [a, b, c], _ => exact ⟨a, b, c, rfl⟩
  simp only [Rows.laid_example_com_radicand_radicand_nanConventions, Prod.mk.injEq, DataW.agg.injEq, List.map_cons, List.map_nil, List.cons.injEq, and_true] at hx1
  obtain ⟨⟨d0, d1, d2⟩, _⟩ := hx1
  obtain ⟨y0, p0⟩ := y0
  obtain ⟨y1, p1⟩ := y1
  obtain ⟨y2, p2⟩ := y2
  simp only at d0 d1 d2
  subst d0 d1 d2
  have r0 := row_of (c0 := a0) (c1 := a1) (c2 := a2) (by simpa using e0)
  have r1 := row_of (c0 := a3) (c1 := a4) (c2 := a5) (by simpa using e1)
  have r2 := row_of (c0 := a6) (c1 := a7) (c2 := a8) (by simpa using e2)
  subst r0 r1 r2
  exact ⟨by simpa using k2, by simpa using k5, by simpa using k8⟩

/-- The door's own heap meets the condition: three closed facts. -/
theorem door_met (os : Os) (args : Array Value) : laidMetH Ybad.prog Rows.lawS6456BWholeRow.laid ((World.doorLaid Ybad.prog 400 os).forCall (fun _ _ => 0) ⟨#[], args, []⟩).memory :=
  laidMetH_of_parts3 (fuel := 8) (laidMet_of_run' 8 (by kernel_rfl) (by kernel_rfl)) (by kernel_rfl) (by kernel_rfl)

set_option maxRecDepth 100000 in
theorem lifted (os : Os) (started : os.Started) (H : Type) (enc : TypeId × Value → H) :
    ReturnsInHanded {} Ybad.checked os 4 .any (fun w args => (Rows.lawS6456BWholeSpec.pre enc Ybad.prog Ybad.f4 [] false w args ∧ laidMetH Ybad.prog Rows.lawS6456BWholeRow.laid w) ∧ sizedMet enc Ybad.prog Ybad.f4 (OpenSpec.ofChange Rows.lawS6456BWholeSpec) false w args)
      (Rows.lawS6456BWholeSpec.post enc Ybad.prog Ybad.f4 false true false false) := by
  refine returnsInHanded_of_change_and (C := Ybad.checked) (X := fun w _ => laidMetH Ybad.prog Rows.lawS6456BWholeRow.laid w) (fun _ _ _ hh h => h.of_heap hh) own started (by kernel_rfl) Ybad.func4
    (ChangeSpec.witness_shaped (enc := enc) (C := Ybad.checked) (os := os) (X := fun w _ => laidMetH Ybad.prog Rows.lawS6456BWholeRow.laid w) false (World.doorLaid Ybad.prog 400 os) #[.int .u64 0, .int .u64 0, .int .u64 0, .int .u8 0] 8 rfl (World.shaped_of_RefB (by kernel_rfl) (by kernel_rfl)) (by kernel_rfl) (by kernel_rfl) (by kernel_rfl) (door_met os _)) ?_
  intro W base args ds gs before hval0 hW _ _ hL _
  have hval : ∀ (j : Nat) t v, Ybad.f4.params[j]? = some t → args[j]? = some v → Value.okWide Ybad.prog W .any base t v := hval0
  have hW' := hW
  obtain ⟨p, q, hA0, hV0, rfl, hfz, hnd⟩ := hW
  have hA : DataW.TrodAll enc Ybad.prog W 0 (fun _ => true) true Ybad.f4.params.toList args.toList ds p := hA0
  have hV : DataW.TrodVars enc Ybad.prog W (fun _ => true) [nm] gs q := hV0
  rw [Ybad.params4] at hA hval
  obtain ⟨v0, v1, v2, v3, d0, d1, d2, d3, p0, p1, p2, p3, rfl, rfl, rfl, h0, h1, h2, h3⟩ := trodAll_four hA
  obtain ⟨a0, rfl, rfl, rfl, w0⟩ := open_int Ybad.underlying25 (hval 0 25 v0 rfl rfl) h0
  obtain ⟨a1, rfl, rfl, rfl, w1⟩ := open_int Ybad.underlying25 (hval 1 25 v1 rfl rfl) h1
  obtain ⟨a2, rfl, rfl, rfl, w2⟩ := open_int Ybad.underlying25 (hval 2 25 v2 rfl rfl) h2
  obtain ⟨a3, rfl, rfl, rfl, w3⟩ := open_int Ybad.underlying5 (hval 3 5 v3 rfl rfl) h3
  obtain ⟨cs0, hv, t2, t5, t8⟩ := of_laid hL
  match gs, hV with
  | [d], hV =>
    obtain ⟨g, t, cs, fu, pd, q', hg, ht, hv', hd, hq', rfl⟩ := hV
    obtain rfl := Option.some.inj (g0.symm.trans hg)
    obtain rfl := Option.some.inj (t0.symm.trans ht)
    obtain rfl := Option.some.inj (hv.symm.trans hv')
    have hq0 : q' = [] := hq'
    subst hq0
    have k0 : DataW.Trod enc Ybad.prog W 0 (fun _ => true) true 43 (.agg cs0) d pd := ⟨fu, hd⟩
    have lt0 : ∀ x ∈ pd, x.block < W.heap.size := DataW.trod_lt fu _ _ _ hd
    clear hA0 hV0 hval0
    have hpos : 0 < W.heap.size := by
      rcases Nat.lt_or_ge 0 W.heap.size with h | h
      · exact h
      · simp [World.cell?, Array.getElem?_eq_none h] at t2
    have b0 := bounds_u64 w0
    have b1 := bounds_u64 w1
    have b2 := bounds_u64 w2
    have b3 := bounds_u8 w3
    obtain ⟨n0, rfl⟩ : ∃ n : Nat, a0 = n := ⟨a0.toNat, by omega⟩
    obtain ⟨n1, rfl⟩ : ∃ n : Nat, a1 = n := ⟨a1.toNat, by omega⟩
    obtain ⟨n2, rfl⟩ : ∃ n : Nat, a2 = n := ⟨a2.toNat, by omega⟩
    have hf : n1 < 18446744073709551616 := by omega
    have hwalk : Calls Ybad.prog 4 #[.int .u64 n0, .int .u64 n1, .int .u64 n2, .int .u8 a3] W fun r w' => r = .returned (.bool true) ∧ Below W.heap.size W w' := by
      have h3 : a3 % 3 = 0 ∨ a3 % 3 = 1 ∨ a3 % 3 = 2 := by omega
      rcases h3 with h3 | h3 | h3
      · exact law_any n0 n1 n2 0 a3 false W hf b3.1 b3.2 h3 (by decide) rfl t2 hpos
      · exact law_any n0 n1 n2 1 a3 false W hf b3.1 b3.2 h3 (by decide) rfl t5 hpos
      · exact law_any n0 n1 n2 2 a3 true W hf b3.1 b3.2 h3 (by decide) rfl t8 hpos
    refine hwalk.mono fun e W' ⟨he, bel⟩ => ?_
    subst he
    obtain ⟨fu', hd'⟩ := Below.trod laidOut (by kernel_rfl) (of_decide_eq_true (by kernel_rfl)) k0 bel lt0
    refine ⟨_, rfl, _, _, _, [], [], MemPlace.row ⟨0, 0, none⟩ cs0.size ++ pd ++ [], hW', ?_, ?_, ?_, bel.frame _, fun h => by cases h⟩
    · exact trodAll_mk1 (shut_bool Ybad.underlying4 _)
    · exact trodAll_mk4 (shut_int Ybad.underlying25 w0) (shut_int Ybad.underlying25 w1) (shut_int Ybad.underlying25 w2) (shut_int Ybad.underlying5 w3)
    · exact ⟨0, 43, cs0, fu', pd, [], g0, t0, var?_below bel g0 hpos hv, hd', rfl, rfl⟩

theorem over : Rows.LawS6456BWholeSaid :=
  OpenClaim.holds_of_wide 4 Ybad.f4 rfl rfl rfl rfl rfl rfl rfl ⟨rfl, rfl, rfl, rfl, rfl⟩ rfl rfl rfl rfl rfl (by kernel_rfl) Ybad.func4 (by kernel_rfl)
    (of_decide_eq_true (by kernel_rfl)) (by unfold Func.isWrapper; first | (rw [if_pos (by decide +kernel)]; kernel_rfl) | (rw [if_neg (by decide +kernel)]; exact ⟨rfl, rfl⟩))
    (fun os started H enc _ => lifted os started H enc)

/-- ████ THE STATEMENT ████ -/
theorem proved : Rows.LawS6456BWholeCardSaid :=
  Claim7.holds_tied_plain_at .later [] [.data] true Rows.lawS6456BWholeCard.stood.harness false
    over (fun _ h => by cases h) (by kernel_rfl) (fun _ h => by cases h) lawS6456BWhole_row_tie rfl ⟨rfl, rfl⟩ (by kernel_rfl) rfl
    (fun f fn hf hfn => by
      obtain rfl : f = 4 := Option.some.inj ((show Ybad.prog.funcNamed Rows.lawS6456BWholeRow.func = some 4 by kernel_rfl).symm.trans hf) |>.symm
      obtain rfl : fn = Ybad.f4 := (Option.some.inj (Ybad.func4.symm.trans hfn)).symm
      exact ⟨by kernel_rfl, fun j t ht => by
        rw [Ybad.params4] at ht
        have hm : t ∈ [25, 25, 25, 5] := by simpa using Array.mem_of_getElem? ht
        have hall : ([25, 25, 25, 5].all fun u => !Ybad.prog.wantsStandIn u) = true := by kernel_rfl
        exact (show Ybad.prog.wantsStandIn t = false by simpa using List.all_eq_true.1 hall t hm)⟩)
    (by kernel_rfl)
end Go.Proofs.YbulkecriDoor.lawS6456BWhole
