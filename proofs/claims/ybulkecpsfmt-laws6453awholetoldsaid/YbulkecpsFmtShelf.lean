import Derived.Shelf.Small.Bits
import Derived.Shelf.Strconv.Itoa0
import Derived.Shelf.Bin.BEPutUint16
import Derived.Shelf.Bin.AppendUvarint
import Derived.Shelf.Bin.AppendVarint
import Derived.Shelf.Spec.TrailingZeros
import Derived.Test.YbulkecpsFmtProg
namespace Go.Proofs
open Go.Shelf
def Ybaf.lays134_ren : Go.Shelf.Ren := ⟨fun | 134 => 29 | 129 => 31 | n => n, fun | 53 => 28 | 3 => 3 | 4 => 4 | 46 => 53 | 5 => 5 | 9 => 9 | n => n, fun | n => n⟩
theorem Ybaf.lays134 : Go.Proofs.Lays.n134 Ybaf.prog Ybaf.lays134_ren := {
  mixed := by kernel_rfl
  f129 := Ybaf.func31.trans (congrArg some (by kernel_rfl))
  f134 := Ybaf.func29.trans (congrArg some (by kernel_rfl))
  t3 := Ybaf.underlying3
  a3 := Ybaf.isAgg3
  z3 := Ybaf.sizeOf3
  v3 := Ybaf.zeroValue3
  t4 := Ybaf.underlying4
  a4 := Ybaf.isAgg4
  z4 := Ybaf.sizeOf4
  v4 := Ybaf.zeroValue4
  t5 := Ybaf.underlying5
  a5 := Ybaf.isAgg5
  z5 := Ybaf.sizeOf5
  v5 := Ybaf.zeroValue5
  t9 := Ybaf.underlying9
  a9 := Ybaf.isAgg9
  z9 := Ybaf.sizeOf9
  v9 := Ybaf.zeroValue9
  t46 := Ybaf.underlying53
  a46 := Ybaf.isAgg53
  z46 := Ybaf.sizeOf53
  v46 := Ybaf.zeroValue53
  t53 := Ybaf.underlying28
  a53 := Ybaf.isAgg28
  z53 := Ybaf.sizeOf28
  v53 := Ybaf.zeroValue28 }
theorem Ybaf.bits_LeadingZeros64 (x : Int) (w : World) (h0 : 0 ≤ x) (h1 : x ≤ 18446744073709551615) :
    Calls Ybaf.prog 29 #[.int .u64 x] w fun e w' => e = .returned (.int .i64 (64 - (Lib.bitLen x.toNat : Int))) ∧ w' = w := Any.bits_LeadingZeros64 Ybaf.lays134 x w h0 h1
def Ybaf.lays129_ren : Go.Shelf.Ren := ⟨fun | 129 => 31 | n => n, fun | 53 => 28 | 3 => 3 | 4 => 4 | 46 => 53 | 5 => 5 | 9 => 9 | n => n, fun | n => n⟩
theorem Ybaf.lays129 : Go.Proofs.Lays.n129 Ybaf.prog Ybaf.lays129_ren := {
  mixed := by kernel_rfl
  f129 := Ybaf.func31.trans (congrArg some (by kernel_rfl))
  t3 := Ybaf.underlying3
  a3 := Ybaf.isAgg3
  z3 := Ybaf.sizeOf3
  v3 := Ybaf.zeroValue3
  t4 := Ybaf.underlying4
  a4 := Ybaf.isAgg4
  z4 := Ybaf.sizeOf4
  v4 := Ybaf.zeroValue4
  t5 := Ybaf.underlying5
  a5 := Ybaf.isAgg5
  z5 := Ybaf.sizeOf5
  v5 := Ybaf.zeroValue5
  t9 := Ybaf.underlying9
  a9 := Ybaf.isAgg9
  z9 := Ybaf.sizeOf9
  v9 := Ybaf.zeroValue9
  t46 := Ybaf.underlying53
  a46 := Ybaf.isAgg53
  z46 := Ybaf.sizeOf53
  v46 := Ybaf.zeroValue53
  t53 := Ybaf.underlying28
  a53 := Ybaf.isAgg28
  z53 := Ybaf.sizeOf28
  v53 := Ybaf.zeroValue28 }
theorem Ybaf.bits_Len64 (x : Int) (w : World) (h0 : 0 ≤ x) (h1 : x ≤ 18446744073709551615) :
    Calls Ybaf.prog 31 #[.int .u64 x] w fun e w' => e = .returned (.int .i64 (Lib.bitLen x.toNat)) ∧ w' = w := Any.bits_Len64 Ybaf.lays129 x w h0 h1
def Ybaf.laysBin37_ren : Go.Shelf.Ren := ⟨fun | 37 => 25 | n => n, fun | 37 => 62 | 22 => 26 | 23 => 27 | 0 => 0 | 5 => 5 | 45 => 53 | n => n, fun | n => n⟩
theorem Ybaf.laysBin37 : Go.Proofs.LaysBin.n37 Ybaf.prog Ybaf.laysBin37_ren := {
  mixed := by kernel_rfl
  f37 := Ybaf.func25.trans (congrArg some (by kernel_rfl))
  t0 := Ybaf.underlying0
  a0 := Ybaf.isAgg0
  z0 := Ybaf.sizeOf0
  v0 := Ybaf.zeroValue0
  i0 := by kernel_rfl
  t5 := Ybaf.underlying5
  a5 := Ybaf.isAgg5
  z5 := Ybaf.sizeOf5
  v5 := Ybaf.zeroValue5
  i5 := by kernel_rfl
  t22 := Ybaf.underlying26
  a22 := Ybaf.isAgg26
  z22 := Ybaf.sizeOf26
  v22 := Ybaf.zeroValue26
  i22 := by kernel_rfl
  t23 := Ybaf.underlying27
  a23 := Ybaf.isAgg27
  z23 := Ybaf.sizeOf27
  v23 := Ybaf.zeroValue27
  i23 := by kernel_rfl
  t37 := Ybaf.underlying62
  a37 := Ybaf.isAgg62
  z37 := Ybaf.sizeOf62
  v37 := Ybaf.zeroValue62
  i37 := by kernel_rfl
  t45 := Ybaf.underlying53
  a45 := Ybaf.isAgg53
  z45 := Ybaf.sizeOf53
  v45 := Ybaf.zeroValue53
  i45 := by kernel_rfl }
open Go.RowKit in
theorem Ybaf.binary_BE_PutUint16 (g o n c v : Nat) (hv : v < 65536) (x0 x1 : Value) (w : World) (hn : 2 ≤ n) (c0 : w.cell? ⟨g, o, none⟩ = some x0) (c1 : w.cell? ⟨g, o + 1, none⟩ = some x1) (f0 : w.frozen? ⟨g, o, none⟩ = false) (f1 : w.frozen? ⟨g, o + 1, none⟩ = false) :
    Calls Ybaf.prog 25 #[.agg #[], .slice (some ⟨g, o, none⟩) n c, .int .u16 v] w fun e w' => e = .returned (.tuple #[]) ∧ w' = (w.alloc (.cells #[] 62)).setCells g o (Lib.byteCells (Lib.beBytes 2 v)) := Any.binary_BE_PutUint16 Ybaf.laysBin37 g o n c v hv x0 x1 w hn c0 c1 f0 f1
def Ybaf.laysBin47_ren : Go.Shelf.Ren := ⟨fun | 47 => 22 | n => n, fun | 22 => 26 | 33 => 28 | 4 => 4 | 5 => 5 | 45 => 53 | n => n, fun | n => n⟩
theorem Ybaf.laysBin47 : Go.Proofs.LaysBin.n47 Ybaf.prog Ybaf.laysBin47_ren := {
  mixed := by kernel_rfl
  f47 := Ybaf.func22.trans (congrArg some (by kernel_rfl))
  t4 := Ybaf.underlying4
  a4 := Ybaf.isAgg4
  z4 := Ybaf.sizeOf4
  v4 := Ybaf.zeroValue4
  i4 := by kernel_rfl
  t5 := Ybaf.underlying5
  a5 := Ybaf.isAgg5
  z5 := Ybaf.sizeOf5
  v5 := Ybaf.zeroValue5
  i5 := by kernel_rfl
  t22 := Ybaf.underlying26
  a22 := Ybaf.isAgg26
  z22 := Ybaf.sizeOf26
  v22 := Ybaf.zeroValue26
  i22 := by kernel_rfl
  t33 := Ybaf.underlying28
  a33 := Ybaf.isAgg28
  z33 := Ybaf.sizeOf28
  v33 := Ybaf.zeroValue28
  i33 := by kernel_rfl
  t45 := Ybaf.underlying53
  a45 := Ybaf.isAgg53
  z45 := Ybaf.sizeOf53
  v45 := Ybaf.zeroValue53
  i45 := by kernel_rfl }
open Go.RowKit in
theorem Ybaf.binary_AppendUvarint (B n x : Nat) (hx : x < 18446744073709551616) (sv : Value) (xs : List Value) (w : World) (hown : w.ownsRow B 5 1 sv n xs) (hBw : B ≤ w.heap.size) (hlim : n + 10 ≤ 140737488355328) :
    Calls Ybaf.prog 22 #[sv, .int .u64 x] w fun e w' => ∃ v', e = .returned v' ∧ w'.ownsRow B 5 1 v' (n + (Lib.uvarint x).length) (xs ++ Lib.byteCells (Lib.uvarint x)) ∧ Below B w w' := Any.binary_AppendUvarint Ybaf.laysBin47 B n x hx sv xs w hown hBw hlim
def Ybaf.laysBin50_ren : Go.Shelf.Ren := ⟨fun | 50 => 20 | 47 => 22 | n => n, fun | 22 => 26 | 2 => 2 | 33 => 28 | 45 => 53 | 4 => 4 | 5 => 5 | n => n, fun | n => n⟩
theorem Ybaf.laysBin50 : Go.Proofs.LaysBin.n50 Ybaf.prog Ybaf.laysBin50_ren := {
  mixed := by kernel_rfl
  f47 := Ybaf.func22.trans (congrArg some (by kernel_rfl))
  f50 := Ybaf.func20.trans (congrArg some (by kernel_rfl))
  t2 := Ybaf.underlying2
  a2 := Ybaf.isAgg2
  z2 := Ybaf.sizeOf2
  v2 := Ybaf.zeroValue2
  i2 := by kernel_rfl
  t4 := Ybaf.underlying4
  a4 := Ybaf.isAgg4
  z4 := Ybaf.sizeOf4
  v4 := Ybaf.zeroValue4
  i4 := by kernel_rfl
  t5 := Ybaf.underlying5
  a5 := Ybaf.isAgg5
  z5 := Ybaf.sizeOf5
  v5 := Ybaf.zeroValue5
  i5 := by kernel_rfl
  t22 := Ybaf.underlying26
  a22 := Ybaf.isAgg26
  z22 := Ybaf.sizeOf26
  v22 := Ybaf.zeroValue26
  i22 := by kernel_rfl
  t33 := Ybaf.underlying28
  a33 := Ybaf.isAgg28
  z33 := Ybaf.sizeOf28
  v33 := Ybaf.zeroValue28
  i33 := by kernel_rfl
  t45 := Ybaf.underlying53
  a45 := Ybaf.isAgg53
  z45 := Ybaf.sizeOf53
  v45 := Ybaf.zeroValue53
  i45 := by kernel_rfl }
open Go.RowKit in
theorem Ybaf.binary_AppendVarint (B n : Nat) (x : Int) (h0 : -9223372036854775808 ≤ x) (h1 : x ≤ 9223372036854775807) (sv : Value) (xs : List Value) (w : World) (hown : w.ownsRow B 5 1 sv n xs) (hBw : B ≤ w.heap.size) (hlim : n + 10 ≤ 140737488355328) :
    Calls Ybaf.prog 20 #[sv, .int .i64 x] w fun e w' => ∃ v', e = .returned v' ∧ w'.ownsRow B 5 1 v' (n + (Lib.uvarint (Lib.zigzag x)).length) (xs ++ Lib.byteCells (Lib.uvarint (Lib.zigzag x))) ∧ Below B w w' := Any.binary_AppendVarint Ybaf.laysBin50 B n x h0 h1 sv xs w hown hBw hlim
def Ybaf.lays7n29_ren : Go.Shelf.Ren := ⟨fun | 29 => 30 | n => n, fun | 22 => 28 | 3 => 3 | 4 => 4 | 25 => 53 | 54 => 74 | 0 => 0 | 5 => 5 | n => n, fun | 1 => 3 | n => n⟩
theorem Ybaf.lays7n29 : Go.Proofs.Lays7.n29 Ybaf.prog Ybaf.lays7n29_ren := {
  mixed := by kernel_rfl
  f29 := Ybaf.func30.trans (congrArg some (by kernel_rfl))
  t0 := Ybaf.underlying0
  a0 := Ybaf.isAgg0
  z0 := Ybaf.sizeOf0
  v0 := Ybaf.zeroValue0
  i0 := by kernel_rfl
  t3 := Ybaf.underlying3
  a3 := Ybaf.isAgg3
  z3 := Ybaf.sizeOf3
  v3 := Ybaf.zeroValue3
  i3 := by kernel_rfl
  t4 := Ybaf.underlying4
  a4 := Ybaf.isAgg4
  z4 := Ybaf.sizeOf4
  v4 := Ybaf.zeroValue4
  i4 := by kernel_rfl
  t5 := Ybaf.underlying5
  a5 := Ybaf.isAgg5
  z5 := Ybaf.sizeOf5
  v5 := Ybaf.zeroValue5
  i5 := by kernel_rfl
  t22 := Ybaf.underlying28
  a22 := Ybaf.isAgg28
  z22 := Ybaf.sizeOf28
  v22 := Ybaf.zeroValue28
  i22 := by kernel_rfl
  t25 := Ybaf.underlying53
  a25 := Ybaf.isAgg53
  z25 := Ybaf.sizeOf53
  v25 := Ybaf.zeroValue53
  i25 := by kernel_rfl
  t54 := Ybaf.underlying74
  a54 := Ybaf.isAgg74
  z54 := Ybaf.sizeOf74
  g1 := by kernel_rfl }
theorem Ybaf.bits_TrailingZeros64 (x : Nat) (hx : x < 18446744073709551616) (w : World) (hT : x ≠ 0 → TabAt 3 Lib.deBruijn64tab w) :
    Calls Ybaf.prog 30 #[.int .u64 x] w fun e w' => e = .returned (.int .i64 (Lib.ctz 64 x)) ∧ w' = w := Any7.bits_TrailingZeros64 Ybaf.lays7n29 x hx w hT
end Go.Proofs
