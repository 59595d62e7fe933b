import Derived.Test.YbulkecpsFmtApp2
import Derived.LaidEql
namespace Go.Proofs.YbulkecpsFmt
open Go.ChangeShapes Go.WideShapes Go.ChangeAt Go.RowKit
set_option maxRecDepth 100000

theorem sameAddr_apart {P : Program} (w : World) {a b : Addr} {ca cb : Array Value} {ta tb : TypeId} {fr : Nat × Nat} (hne : a.block ≠ b.block) (ha : w.heap[a.block]? = some (.cells ca ta (0, 0))) (hb : w.heap[b.block]? = some (.cells cb tb fr)) (hsz : cb.size ≠ 0) : (sameAddr a b).run P w = .ok false w := by
  obtain ⟨lo, hi⟩ := fr
  obtain ⟨k, hk⟩ : ∃ k, cb.size = k + 1 := ⟨cb.size - 1, by omega⟩
  simp [sameAddr, hne, World.frozen?, ha, hb, noView, viewAt, World.shape?, mayBeOne, stringish, hk]

theorem c71 : (Ybaf.prog.info? 71).map (·.comparable) = some true := by kernel_rfl
theorem c73 : (Ybaf.prog.info? 73).map (·.size) = some 1 := by kernel_rfl
theorem eq71 (w : World) (a : Addr) : (binOp .eql 35 (.iface 71 (.pointer (some a))) (.iface 71 (.pointer (some a)))).run Ybaf.prog w = .ok (.bool true) w := by
  obtain ⟨i, hi, hcmp⟩ := Option.map_eq_some_iff.1 c71
  obtain ⟨j, hj, _⟩ := Option.map_eq_some_iff.1 c73
  exact run_eql_iface_ptr_same w a Ybaf.underlying35 Ybaf.underlying71 hi hcmp hj
theorem neq71 (w : World) (a : Addr) : (binOp .neq 35 (.iface 71 (.pointer (some a))) (.iface 71 (.pointer (some a)))).run Ybaf.prog w = .ok (.bool false) w := by
  obtain ⟨i, hi, hcmp⟩ := Option.map_eq_some_iff.1 c71
  obtain ⟨j, hj, _⟩ := Option.map_eq_some_iff.1 c73
  simp only [binOp]
  simp [Op.equal, Op.maxDepth, run_equalIn_iface_ptr_same w 9998 a Ybaf.underlying35 Ybaf.underlying71 hi hcmp hj]
theorem diffIn {P : Program} (w : World) (d : Nat) {ti tp te : TypeId} {ms : Array (String × TypeId)} {i j : TypeInfo} {a b : Addr} (hi : P.underlying ti = some (.interface ms)) (hp : P.underlying tp = some (.pointer te)) (hinfo : P.info? tp = some i) (hcomp : i.comparable = true) (hte : P.info? te = some j) (hsz : j.size ≠ 0)
    (h : (sameAddr a b).run P w = .ok false w) : (Op.equalIn (d + 2) ti (.iface tp (.pointer (some a))) (.iface tp (.pointer (some b)))).run P w = .ok false w := by
  simp [Op.equalIn, run_underlying hi, run_underlying hp, typeInfo, hinfo, hcomp, sizeOf, hte, hsz, h]
theorem diff71 (w : World) {a b : Addr} {ca cb : Array Value} {ta tb : TypeId} {fr : Nat × Nat} (hne : a.block ≠ b.block) (ha : w.heap[a.block]? = some (.cells ca ta (0, 0))) (hb : w.heap[b.block]? = some (.cells cb tb fr)) (hsz : cb.size ≠ 0) :
    (binOp .eql 35 (.iface 71 (.pointer (some a))) (.iface 71 (.pointer (some b)))).run Ybaf.prog w = .ok (.bool false) w := by
  obtain ⟨i, hi, hcmp⟩ := Option.map_eq_some_iff.1 c71
  obtain ⟨j, hj, hj1⟩ := Option.map_eq_some_iff.1 c73
  simp only [binOp]
  simp [Op.equal, Op.maxDepth, diffIn w 9998 Ybaf.underlying35 Ybaf.underlying71 hi hcmp hj (by omega) (sameAddr_apart w hne ha hb hsz)]

/-- What Append answers. -/
def Answer (k : Int) (x : Addr) (w w' : World) (ev : Value) : Prop :=
  (k = 0 ∧ ev = .nilIface) ∨ (k = 1 ∧ ev = .iface 71 (.pointer (some x))) ∨ (k = 2 ∧ ∃ b, w.heap.size ≤ b ∧ ev = .iface 71 (.pointer (some ⟨b, 0, none⟩)) ∧ ∃ tx : ByteArray, w'.heap[b]? = some (.cells #[.string tx] 73 (0, 0)))

theorem app_walk (c vb : Nat) (t : Int) (s : St) (g : Nat) (w : World) (x : Addr) (hC : CAt w c s (s.n / 256) (s.n % 256) g) (hO : s.Ok) (hn : s.n ≤ 65535) (hL : s.bs.length ≤ 800000000) (hvb : vb < 18446744073709551616) (ht0 : -9223372036854775808 ≤ t) (ht1 : t ≤ 9223372036854775807) (hT : TabAt 3 Lib.deBruijn64tab w) (h3 : ¬ wfoot c g 3)
    (hx : w.cell? ⟨0, 0, none⟩ = some (.iface 71 (.pointer (some x)))) :
    Calls Ybaf.prog 8 #[.pointer (some ⟨c, 0, none⟩), .int .i64 t, .float .f64 vb] w fun e w' => ∃ ev g', e = .returned ev ∧ Answer (s.kind t) x w w' ev ∧ CAt w' c (s.next t vb) ((s.next t vb).n / 256) ((s.next t vb).n % 256) g' ∧ Step (wfoot c g) w (wfoot c g') w' := by
  by_cases hf : s.n = 65535
  · have e1 : s.kind t = 1 := by unfold St.kind; rw [if_pos hf]
    have e2 : s.next t vb = s := by unfold St.next; rw [if_pos hf]
    rw [e1, e2]
    refine (app_full c t _ _ s _ _ g w hC hf hx).mono ?_
    rintro e w' ⟨rfl, rfl⟩
    exact ⟨_, g, rfl, .inr (.inl ⟨rfl, rfl⟩), hC, Step.refl _ _⟩
  by_cases hz : s.n = 0
  · have e1 : s.kind t = 0 := by unfold St.kind; rw [if_neg hf, if_neg (by omega)]
    have e3 : (s.next t vb).n = s.n + 1 := by unfold St.next; rw [if_neg hf, if_neg (by omega)]
    rw [e1, e3]
    refine (app_first c vb t s _ _ g w hC hO hz hL hvb ht0 ht1).mono ?_
    rintro e w' ⟨rfl, g', hC', hS⟩
    exact ⟨_, g', rfl, .inl ⟨rfl, rfl⟩, hC', hS⟩
  by_cases hle : t ≤ s.t
  · have e1 : s.kind t = 2 := by unfold St.kind; rw [if_neg hf, if_pos ⟨by omega, hle⟩]
    have e2 : s.next t vb = s := by unfold St.next; rw [if_neg hf, if_pos ⟨by omega, hle⟩]
    rw [e1, e2]
    refine (app_late c t _ s _ _ g w hC hf (by omega) hle).mono ?_
    rintro e w' ⟨rfl, ⟨o, tx, rfl⟩⟩
    refine ⟨_, g, rfl, .inr (.inr ⟨rfl, w.heap.size + 1, by omega, rfl, tx, ?_⟩), (((hC.alloc _).alloc _).drew), (((Step.refl _ w).alloc _).alloc _).drew⟩
    have := heap_alloc_new (w.alloc o) (.cells #[.string tx] 73)
    rw [World.size_alloc] at this
    exact this
  have e1 : s.kind t = 0 := by unfold St.kind; rw [if_neg hf, if_neg (by omega)]
  have e3 : (s.next t vb).n = s.n + 1 := by unfold St.next; rw [if_neg hf, if_neg (by omega)]
  rw [e1, e3]
  by_cases h1 : s.n = 1
  · refine (app_second c vb t s _ _ g w hC hO h1 (by omega) hL hvb hT h3).mono ?_
    rintro e w' ⟨rfl, g', hC', hS⟩
    exact ⟨_, g', rfl, .inl ⟨rfl, rfl⟩, hC', hS⟩
  · refine (app_later c vb t s _ _ g w hC hO (by omega) (by omega) (by omega) hL hvb hT h3).mono ?_
    rintro e w' ⟨rfl, g', hC', hS⟩
    exact ⟨_, g', rfl, .inl ⟨rfl, rfl⟩, hC', hS⟩
end Go.Proofs.YbulkecpsFmt
