import Derived.Test.YbulkecpsFmtPut
namespace Go.Proofs.YbulkecpsFmt
open Go.ChangeShapes Go.WideShapes Go.ChangeAt Go.RowKit
set_option maxRecDepth 100000

theorem St.putAll_snoc (s : St) (l : List UInt8) (b : UInt8) : s.putAll (l ++ [b]) = (s.putAll l).put b.toNat 8 := by simp [St.putAll, List.foldl_append]
theorem u8_toNat (x : Nat) (h : x < 256) : x.toUInt8.toNat = x := by
  rw [UInt8.toNat_ofNat']
  omega
theorem low7 (y : Nat) (h : y < 18446744073709551616) : bits BinOp.or IntKind.u64 (bits BinOp.and IntKind.u64 (y : Int) 127) 128 = ((y % 128 + 128 : Nat) : Int) := by
  rw [show (127 : Int) = ((127 : Nat) : Int) from rfl, bits_and_u64_nat y 127 h (by decide), show (128 : Int) = ((128 : Nat) : Int) from rfl]
  have e1 : y &&& 127 = y % 128 := Nat.and_two_pow_sub_one_eq_mod y 7
  rw [e1, (bits_nat .u64 64 (by decide) wraps_u64 (y % 128) 128 (by omega) (by decide)).2]
  have e2 : 128 * 1 + y % 128 = 128 * 1 ||| y % 128 := Nat.two_pow_add_eq_or_of_lt (i := 7) (by omega) 1
  have e3 : y % 128 ||| 128 = y % 128 + 128 := by
    rw [Nat.mul_one] at e2
    rw [Nat.or_comm, ← e2, Nat.add_comm]
  rw [e3]

set_option maxHeartbeats 1000000 in
theorem uvar_walk (m u : Nat) (s : St) (bv : Value) (w : World) (hM : ModelAt w m s bv) (hu : u < 18446744073709551616) (hL : s.bs.length ≤ 900000000) :
    Calls Ybaf.prog 14 #[.pointer (some ⟨m, 0, none⟩), .int .u64 u] w fun e w' => e = .returned (.tuple #[]) ∧ ∃ bv', ModelAt w' m (s.putAll (Lib.uvarint u)) bv' ∧ Step (footOf m bv) w (footOf m bv') w' := by
  have HU : Hid (u < 18446744073709551616) := hu
  have HL : Hid (s.bs.length ≤ 900000000) := hL
  have hlen := Lib.uvarint_length64 hu
  clear hL hu
  go_enter Ybaf.func14, Ybaf.ntmps14
  go_wp2
  go_loopw [1] (fun vx wr => ∃ (y : Nat) (pre : List UInt8) (bw : Value), vx = .int .u64 y ∧ y ≤ u ∧ Lib.uvarint u = pre ++ Lib.uvarint y ∧ ModelAt wr m (s.putAll pre) bw ∧ Step (footOf m bv) w (footOf m bw) wr)
    (fun vx _ => (intOf vx).toNat)
  case atStart => exact ⟨u, [], bv, rfl, Nat.le_refl _, rfl, hM, Step.refl _ _⟩
  case round =>
    obtain ⟨y, pre, bw, rfl, hy, hsplit, hMr, hS⟩ := hrel
    have hpl : pre.length + (Lib.uvarint y).length ≤ 10 := by
      have h2 := congrArg List.length hsplit
      rw [List.length_append] at h2
      omega
    have hlp : (s.putAll pre).bs.length ≤ 1000000000 := by have := HL.out; rw [St.putAll_length]; omega
    have hy64 : y < 18446744073709551616 := by have := HU.out; omega
    have HS : Hid (Lib.uvarint u = pre ++ Lib.uvarint y) := hsplit
    have HP : Hid ((s.putAll pre).bs.length ≤ 1000000000) := hlp
    have HY : Hid (y < 18446744073709551616) := hy64
    clear hsplit hlp hy64 hpl
    by_cases h128 : 128 ≤ y
    · obtain ⟨z, hz⟩ : ∃ z : Nat, z = y % 128 + 128 := ⟨_, rfl⟩
      have hor : bits BinOp.or IntKind.u64 (bits BinOp.and IntKind.u64 (y : Int) 127) 128 = (z : Int) := by rw [hz]; exact low7 y HY.out
      have HZ : Hid (z = y % 128 + 128) := hz
      clear hz
      go_wp2_with fail
      refine (put_walk m z 8 _ bw _ hMr (by decide) (by decide) (by have := HZ.out; omega) HP.out).mono ?_
      rintro e w1 ⟨rfl, bw1, hM1, hS1⟩
      go_wp2
      go_roundw
      case rel =>
        refine ⟨y / 128, pre ++ [(y % 128 + 128).toUInt8], bw1, by go_num, by omega, by rw [HS.out, Lib.uvarint_big h128]; simp, ?_, hS.trans hS1⟩
        rw [St.putAll_snoc, u8_toNat _ (by omega), ← HZ.out]
        exact hM1
      case measure => simp [intOf]; omega
    · go_wp2_with fail
      refine (put_walk m y 8 _ bw _ hMr (by decide) (by decide) HY.out HP.out).mono ?_
      rintro e w1 ⟨rfl, bw1, hM1, hS1⟩
      go_wp2
      go_end0
      refine ⟨rfl, bw1, ?_, hS.trans hS1⟩
      rw [HS.out, Lib.uvarint_small (by omega), St.putAll_snoc, u8_toNat _ (by omega)]
      exact hM1
end Go.Proofs.YbulkecpsFmt
