import Derived.Test.YbulkecpsDoorLaw
import Derived.Test.YbulkecpsDoorTie
import Derived.Test.YbulkecpsDoorCards
import Derived.ChangeOld
import Derived.Below
import Derived.LaidMore
import Derived.LaidLaws
import Derived.Stop.LaidErr
import Derived.Stop.Joined
import Derived.SevenTiedAt
import Derived.WalkSmall
namespace Go.Proofs.YbulkecpsDoor.lawS6453BWhole
open Go Go.ChangeShapes Go.WideShapes Go.ChangeAt Go.RowKit
set_option linter.unusedVariables false

theorem own : ownKnob Ybad.prog.godebug = none := by kernel_rfl
theorem laidOut : laidOutB Ybad.prog = true := by kernel_rfl

/-- The two variables' names, as the row lists them. -/
def nm (k : Nat) : String := Rows.lawS6453BWholeSpec.vars.getD k ""
/-- The dynamic type's name, as the row's datum says it. -/
def tyName : String := match (Rows.laid_example_com_oriel_oriel_chunkenc_errShort (H := Unit)) with | .iface n _ => n | _ => ""
theorem g0 : Ybad.prog.globalNamed (nm 0) = some 0 := by kernel_rfl
theorem g1 : Ybad.prog.globalNamed (nm 1) = some 1 := by kernel_rfl
theorem t0 : (Ybad.prog.globals[0]?).map (·.type) = some 26 := by kernel_rfl
theorem t1 : (Ybad.prog.globals[1]?).map (·.type) = some 26 := by kernel_rfl
theorem cells38 : Ybad.prog.cellsOf 38 = 1 := by kernel_rfl
theorem cells9 : Ybad.prog.cellsOf 9 = 1 := by kernel_rfl
theorem star : tyName = String.singleton (Char.ofNat 42) ++ "errors.errorString" := by kernel_rfl
theorem row36 (u : TypeId) (h : Ybad.prog.typeName? 3 u = some tyName) : u = 36 :=
  typeName_ptr_named (P := Ybad.prog) (nm := "errors.errorString") (by kernel_rfl) (by kernel_rfl) (by decide) u (by rw [h, star]; rfl)

/-- WHAT THE CONDITION GIVES THE WALKS: each variable holds a pointer to an errorString. -/
theorem of_laid {W : World} (h : laidMetH Ybad.prog Rows.lawS6453BWholeRow.laid W) :
    ∃ x0 x1 : Addr, W.var? Ybad.prog (nm 0) = some #[.iface 36 (.pointer (some x0))] ∧ W.var? Ybad.prog (nm 1) = some #[.iface 36 (.pointer (some x1))] := by
  rw [MakeChecks.laidMetH_plain _ _ _ (by kernel_rfl)] at h
  obtain ⟨x0, s0, h0, _⟩ := laid_sentinel (n := nm 0) (nm := tyName) h g0 t0 Ybad.underlying26 row36 Ybad.underlying36 Ybad.underlying38 rfl rfl Ybad.underlying9 cells38 cells9
  obtain ⟨x1, s1, h1, _⟩ := laid_sentinel (n := nm 1) (nm := tyName) h.tail g1 t1 Ybad.underlying26 row36 Ybad.underlying36 Ybad.underlying38 rfl rfl Ybad.underlying9 cells38 cells9
  exact ⟨x0, x1, h0, h1⟩

/-- WHAT THE WALK IS TOLD OF THE SLICE THAT CAME IN. -/
theorem opened {W : World} {a0 : Option Addr} {len cap : Nat} {H : Type} {enc : TypeId × Value → H} {d0 : DataW H} {p : List MemPlace} (h0 : DataW.Trod enc Ybad.prog W 0 (fun _ => true) true 22 (.slice a0 len cap) d0 p) :
    ∃ f : Nat → Nat, (∀ i, f i ≤ 255) ∧ Bytes W.heap.size W a0 len cap f := by
  obtain ⟨fuel, hf⟩ := h0
  rcases open_ints Ybad.underlying22 Ybad.underlying5 (by kernel_rfl) hf with ⟨hcs, _⟩ | ⟨x, l, c, zs, hcs, _, hl, hm, hz, _, hcell, hwz⟩
  · simp [Value.cells] at hcs
    obtain ⟨rfl, rfl, rfl⟩ := hcs
    exact ⟨fun _ => 0, fun _ => Nat.zero_le _, .inl ⟨rfl, rfl, rfl⟩⟩
  · simp [Value.cells] at hcs
    obtain ⟨rfl, rfl, rfl⟩ := hcs
    have hz' : zs.length = cap := by simpa using hz
    have hr := range_u8 hwz
    by_cases h0 : len = 0
    · exact ⟨fun _ => 0, fun _ => Nat.zero_le _, .inr (.inl ⟨x, rfl, h0⟩)⟩
    · obtain ⟨b, off, rfl, hc⟩ := ints_at hcell (by omega)
      refine ⟨fun i => (zs[i]?.getD 0).toNat, fun i => by have := hr i; show (zs[i]?.getD 0).toNat ≤ 255; omega, .inr (.inr ⟨b, off, rfl, ?_, fun i hi => ?_⟩)⟩
      · have := hc 0 (by omega)
        rcases Nat.lt_or_ge b W.heap.size with h | h
        · exact h
        · simp [World.cell?, Array.getElem?_eq_none h] at this
      · rw [hc i (by omega)]
        have := hr i
        simp only [List.getD]
        rw [Int.toNat_of_nonneg this.1]

theorem walk (a0 : Option Addr) (len cap : Nat) (f : Nat → Nat) (a1 a2 a3 : Int) (w : World) (hb : Bytes w.heap.size w a0 len cap f) (hf : ∀ i, f i ≤ 255) (w1 : (Lit.int .u32 a1).wf = true) (w2 : (Lit.int .u8 a2).wf = true) (w3 : (Lit.int .i64 a3).wf = true)
    (x0 x1 : Addr) (hg0 : w.cell? ⟨0, 0, none⟩ = some (.iface 36 (.pointer (some x0)))) (hg1 : w.cell? ⟨1, 0, none⟩ = some (.iface 36 (.pointer (some x1)))) (h0 : 0 < w.heap.size) :
    Calls Ybad.prog 3 #[.slice a0 len cap, .int .u32 a1, .int .u8 a2, .int .i64 a3] w fun e w' => e = .returned (.bool true) ∧ Below w.heap.size w w' := by
  have b1 := bounds_u32 w1
  have b2 := bounds_u8 w2
  by_cases hl : len ≤ 1048576
  · have hm : 0 ≤ a1 % (len * 8 + 1) ∧ a1 % (len * 8 + 1) < len * 8 + 1 := ⟨Int.emod_nonneg _ (by omega), Int.emod_lt_of_pos _ (by omega)⟩
    obtain ⟨p, hp⟩ : ∃ p : Nat, a1 % (len * 8 + 1) = p := ⟨(a1 % (len * 8 + 1)).toNat, by omega⟩
    have hw : wrap64 (a1 % (len * 8 + 1)) = (p : Nat) := by rw [hp]; unfold wrap64; omega
    have hpl : p ≤ len * 8 := by omega
    have h4 : a2 % 4 = 0 ∨ a2 % 4 = 1 ∨ a2 % 4 = 2 ∨ a2 % 4 = 3 := by omega
    rcases h4 with h4 | h4 | h4 | h4
    · by_cases hn : a3 ≤ 0
      · exact law_none a0 len cap p f a1 a2 a3 w hl hb b1.1 b1.2 b2.1 b2.2 h4 hw hpl hn
      by_cases hn2 : (len : Int) * 8 - p < a3
      · exact law_short a0 len cap p f a1 a2 a3 w hl hb b1.1 b1.2 b2.1 b2.2 h4 x0 hg0 h0 hw hpl hn2
      · obtain ⟨m, rfl⟩ : ∃ m : Nat, a3 = m := ⟨a3.toNat, by omega⟩
        exact law_bits a0 len cap p m f a1 a2 w hl hb hf b1.1 b1.2 b2.1 b2.2 h4 hw (by omega) (by omega)
    · exact law_err1 a0 len cap p f a1 a2 a3 w hl hb b1.1 b1.2 b2.1 b2.2 h4 x0 hg0 hw
    · exact law_err2 a0 len cap p f a1 a2 a3 w hl hb b1.1 b1.2 b2.1 b2.2 h4 x1 hg1 hw
    · exact law_err3 a0 len cap p f a1 a2 a3 w hl hb b1.1 b1.2 b2.1 b2.2 h4 hw
  · exact law_long a0 len cap a1 a2 a3 w (by omega)

/-- The door's own heap meets the condition: three closed facts. -/
theorem door_met (os : Os) (args : Array Value) : laidMetH Ybad.prog Rows.lawS6453BWholeRow.laid ((World.doorLaid Ybad.prog 400 os).forCall (fun _ _ => 0) ⟨#[], args, []⟩).memory :=
  laidMetH_of_parts3 (fuel := 8) (laidMet_of_run' 8 (by kernel_rfl) (by kernel_rfl)) (by kernel_rfl) (by kernel_rfl)

set_option maxRecDepth 100000 in
theorem lifted (os : Os) (started : os.Started) (H : Type) (enc : TypeId × Value → H) :
    ReturnsInHanded {} Ybad.checked os 3 .any (fun w args => (Rows.lawS6453BWholeSpec.pre enc Ybad.prog Ybad.f3 [] false w args ∧ laidMetH Ybad.prog Rows.lawS6453BWholeRow.laid w) ∧ sizedMet enc Ybad.prog Ybad.f3 (OpenSpec.ofChange Rows.lawS6453BWholeSpec) false w args)
      (Rows.lawS6453BWholeSpec.post enc Ybad.prog Ybad.f3 false true false false) := by
  refine returnsInHanded_of_change_and (C := Ybad.checked) (X := fun w _ => laidMetH Ybad.prog Rows.lawS6453BWholeRow.laid w) (fun _ _ _ hh h => h.of_heap hh) own started (by kernel_rfl) Ybad.func3
    (ChangeSpec.witness_shaped (enc := enc) (C := Ybad.checked) (os := os) (X := fun w _ => laidMetH Ybad.prog Rows.lawS6453BWholeRow.laid w) false (World.doorLaid Ybad.prog 400 os) #[.slice none 0 0, .int .u32 0, .int .u8 0, .int .i64 0] 8 rfl (World.shaped_of_RefB (by kernel_rfl) (by kernel_rfl)) (by kernel_rfl) (by kernel_rfl) (by kernel_rfl) (door_met os _)) ?_
  intro W base args ds gs before hval0 hW _ _ hL _
  have hval : ∀ (j : Nat) t v, Ybad.f3.params[j]? = some t → args[j]? = some v → Value.okWide Ybad.prog W .any base t v := hval0
  have hW' := hW
  obtain ⟨p, q, hA0, hV0, rfl, hfz, hnd⟩ := hW
  have hA : DataW.TrodAll enc Ybad.prog W 0 (fun _ => true) true Ybad.f3.params.toList args.toList ds p := hA0
  have hV : DataW.TrodVars enc Ybad.prog W (fun _ => true) [nm 0, nm 1] gs q := hV0
  rw [Ybad.params3] at hA hval
  obtain ⟨v0, v1, v2, v3, d0, d1, d2, d3, p0, p1, p2, p3, rfl, rfl, rfl, h0, h1, h2, h3⟩ := trodAll_four hA
  obtain ⟨x0, x1, hv0, hv1⟩ := of_laid hL
  obtain ⟨rfl, rfl⟩ := hV.unique (vars_read2 enc g0 t0 Ybad.underlying26 hv0 trivial g1 t1 Ybad.underlying26 hv1 trivial _)
  obtain ⟨a0, len0, cap0, rfl⟩ := okWide_slice Ybad.underlying22 (hval 0 22 v0 rfl rfl)
  have k0 := h0
  have lt0 : ∀ x ∈ p0, x.block < W.heap.size := by obtain ⟨m, hm⟩ := k0; exact DataW.trod_lt m _ _ _ hm
  obtain ⟨f, hf, hb⟩ := opened h0
  obtain ⟨a1, rfl, rfl, rfl, w1⟩ := open_int Ybad.underlying23 (hval 1 23 v1 rfl rfl) h1
  obtain ⟨a2, rfl, rfl, rfl, w2⟩ := open_int Ybad.underlying5 (hval 2 5 v2 rfl rfl) h2
  obtain ⟨a3, rfl, rfl, rfl, w3⟩ := open_int Ybad.underlying3 (hval 3 3 v3 rfl rfl) h3
  clear hA0 hV0 hval0
  have hc0 : W.cell? ⟨0, 0, none⟩ = some (.iface 36 (.pointer (some x0))) := by simpa using World.var?_cell g0 hv0 0
  have hc1 : W.cell? ⟨1, 0, none⟩ = some (.iface 36 (.pointer (some x1))) := by simpa using World.var?_cell g1 hv1 0
  have hpos : 1 < W.heap.size := by
    rcases Nat.lt_or_ge 1 W.heap.size with h | h
    · exact h
    · simp [World.cell?, Array.getElem?_eq_none h] at hc1
  refine (walk a0 len0 cap0 f a1 a2 a3 W hb hf w1 w2 w3 x0 x1 hc0 hc1 (by omega)).mono fun e W' ⟨he, bel⟩ => ?_
  subst he
  refine ⟨_, rfl, _, _, _, [], p0, [.cell 0 0, .cell 1 0], hW', ?_, ?_, ?_, bel.frame _, fun h => by cases h⟩
  · exact trodAll_mk1 (shut_bool Ybad.underlying4 _)
  · have := trodAll_mk4 (Below.trod laidOut (by kernel_rfl) (of_decide_eq_true (by kernel_rfl)) k0 bel lt0) (shut_int Ybad.underlying23 w1) (shut_int Ybad.underlying5 w2) (shut_int Ybad.underlying3 w3)
    simp only [List.append_nil] at this
    exact this
  · exact vars_read2 enc g0 t0 Ybad.underlying26 (var?_below bel g0 (by omega) hv0) trivial g1 t1 Ybad.underlying26 (var?_below bel g1 (by omega) hv1) trivial _

theorem over : Rows.LawS6453BWholeSaid :=
  OpenClaim.holds_of_wide 3 Ybad.f3 rfl rfl rfl rfl rfl rfl rfl ⟨rfl, rfl, rfl, rfl, rfl⟩ rfl rfl rfl rfl rfl (by kernel_rfl) Ybad.func3 (by kernel_rfl)
    (of_decide_eq_true (by kernel_rfl)) (by unfold Func.isWrapper; first | (rw [if_pos (by decide +kernel)]; kernel_rfl) | (rw [if_neg (by decide +kernel)]; exact ⟨rfl, rfl⟩))
    (fun os started H enc _ => lifted os started H enc)

/-- ████ THE STATEMENT ████ -/
theorem proved : Rows.LawS6453BWholeCardSaid :=
  Claim7.holds_tied_plain_at .later [] [.sentinel, .sentinel] true Rows.lawS6453BWholeCard.stood.harness true
    over (fun _ h => by cases h) (by kernel_rfl) (fun _ h => by cases h) lawS6453BWhole_row_tie rfl ⟨rfl, rfl⟩ (by kernel_rfl) rfl
    (fun f fn hf hfn => by
      obtain rfl : f = 3 := Option.some.inj ((show Ybad.prog.funcNamed Rows.lawS6453BWholeRow.func = some 3 by kernel_rfl).symm.trans hf) |>.symm
      obtain rfl : fn = Ybad.f3 := (Option.some.inj (Ybad.func3.symm.trans hfn)).symm
      exact ⟨by kernel_rfl, fun j t ht => by
        rw [Ybad.params3] at ht
        have hm : t ∈ [22, 23, 5, 3] := by simpa using Array.mem_of_getElem? ht
        have hall : ([22, 23, 5, 3].all fun u => !Ybad.prog.wantsStandIn u) = true := by kernel_rfl
        exact (show Ybad.prog.wantsStandIn t = false by simpa using List.all_eq_true.1 hall t hm)⟩)
    (by kernel_rfl)
end Go.Proofs.YbulkecpsDoor.lawS6453BWhole
