import Derived.Test.YbulkecpsFmtPut
namespace Go.Proofs.YbulkecpsFmt
open Go.ChangeShapes Go.WideShapes Go.ChangeAt Go.RowKit
set_option maxRecDepth 100000

/-- What the model's slice looks like. -/
theorem ModelAt.slice {w : World} {m : Nat} {s : St} {bv : Value} (h : ModelAt w m s bv) : ∃ a cap, bv = .slice a s.bs.length cap := by
  rcases h.own.2 with ⟨rfl, h0⟩ | ⟨g, cap, cur, rfl, _⟩
  · exact ⟨none, 0, by rw [h0]⟩
  · exact ⟨_, cap, rfl⟩

theorem blen_walk (m : Nat) (s : St) (bv : Value) (w : World) (hM : ModelAt w m s bv) (hO : s.Ok) (hL : s.bs.length ≤ 900000000) :
    Calls Ybaf.prog 9 #[.pointer (some ⟨m, 0, none⟩)] w fun e w' => e = .returned (.int .i64 ((2 + (s.bs.length + s.free) / 8 : Nat) : Int)) ∧ w' = w := by
  obtain ⟨a, cap, rfl⟩ := hM.slice
  have c0 : w.cell? ⟨m, 0, none⟩ = some (.slice a s.bs.length cap) := cell_of_blk hM.blk
  have c1 : w.cell? ⟨m, 1, none⟩ = some (.bool s.opn) := cell_of_blk hM.blk
  have hb := blen_eq s hO
  have HB : Hid _ := hb
  clear hb
  have hL2 : (s.bs.length : Int) ≤ 900000000 := by omega
  by_cases ho : s.opn = true
  · go_enter Ybaf.func9, Ybaf.ntmps9
    go_wp2
    go_ret
    refine ⟨?_, rfl⟩
    rw [← HB.out, ho]
    congr 2
  · have ho' : s.opn = false := by simpa using ho
    go_enter Ybaf.func9, Ybaf.ntmps9
    go_wp2
    go_ret
    refine ⟨?_, rfl⟩
    rw [← HB.out, ho']
    congr 2

theorem free_walk (m : Nat) (s : St) (bv : Value) (w : World) (hM : ModelAt w m s bv) (hL : s.bs.length ≤ 900000000) :
    Calls Ybaf.prog 10 #[.pointer (some ⟨m, 0, none⟩)] w fun e w' => e = .returned (.int .i64 (s.free : Int)) ∧ w' = w := by
  obtain ⟨a, cap, rfl⟩ := hM.slice
  have c0 : w.cell? ⟨m, 0, none⟩ = some (.slice a s.bs.length cap) := cell_of_blk hM.blk
  have c1 : w.cell? ⟨m, 1, none⟩ = some (.bool s.opn) := cell_of_blk hM.blk
  have hL2 : (s.bs.length : Int) ≤ 900000000 := by omega
  by_cases ho : s.opn = true
  · go_enter Ybaf.func10, Ybaf.ntmps10
    go_wp2
    go_ret
    exact ⟨by simp [St.free, freeOf, ho], rfl⟩
  · have ho' : s.opn = false := by simpa using ho
    by_cases h8 : s.bs.length % 8 = 0
    · have h8' : (s.bs.length : Int) % 8 = 0 := by omega
      go_enter Ybaf.func10, Ybaf.ntmps10
      go_wp2
      go_ret
      exact ⟨by simp [St.free, freeOf, ho', h8], rfl⟩
    · have h8' : ¬ (s.bs.length : Int) % 8 = 0 := by omega
      go_enter Ybaf.func10, Ybaf.ntmps10
      go_wp2
      go_ret
      refine ⟨?_, rfl⟩
      simp only [St.free, freeOf, ho']
      congr 2
      simp
      omega
end Go.Proofs.YbulkecpsFmt
