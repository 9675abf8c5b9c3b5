import Derived.Shelf.Strconv.Itoa0
import Derived.Shelf.Bin.BEUint32
import Derived.Shelf.Bin.BEUint64
import Derived.Test.YbulkproDoorProg
namespace Go.Proofs
open Go.Shelf
def Ybad.lays129_ren : Go.Shelf.Ren := ⟨fun | 129 => 32 | n => n, fun | 53 => 25 | 3 => 3 | 4 => 4 | 46 => 55 | 5 => 5 | 9 => 9 | n => n, fun | n => n⟩
theorem Ybad.lays129 : Go.Proofs.Lays.n129 Ybad.prog Ybad.lays129_ren := {
  mixed := by kernel_rfl
  f129 := Ybad.func32.trans (congrArg some (by kernel_rfl))
  t3 := Ybad.underlying3
  a3 := Ybad.isAgg3
  z3 := Ybad.sizeOf3
  v3 := Ybad.zeroValue3
  t4 := Ybad.underlying4
  a4 := Ybad.isAgg4
  z4 := Ybad.sizeOf4
  v4 := Ybad.zeroValue4
  t5 := Ybad.underlying5
  a5 := Ybad.isAgg5
  z5 := Ybad.sizeOf5
  v5 := Ybad.zeroValue5
  t9 := Ybad.underlying9
  a9 := Ybad.isAgg9
  z9 := Ybad.sizeOf9
  v9 := Ybad.zeroValue9
  t46 := Ybad.underlying55
  a46 := Ybad.isAgg55
  z46 := Ybad.sizeOf55
  v46 := Ybad.zeroValue55
  t53 := Ybad.underlying25
  a53 := Ybad.isAgg25
  z53 := Ybad.sizeOf25
  v53 := Ybad.zeroValue25 }
theorem Ybad.bits_Len64 (x : Int) (w : World) (h0 : 0 ≤ x) (h1 : x ≤ 18446744073709551615) :
    Calls Ybad.prog 32 #[.int .u64 x] w fun e w' => e = .returned (.int .i64 (Lib.bitLen x.toNat)) ∧ w' = w := Any.bits_Len64 Ybad.lays129 x w h0 h1
def Ybad.laysBin39_ren : Go.Shelf.Ren := ⟨fun | 39 => 27 | n => n, fun | 37 => 61 | 22 => 24 | 29 => 22 | 0 => 0 | 5 => 5 | 45 => 55 | n => n, fun | n => n⟩
theorem Ybad.laysBin39 : Go.Proofs.LaysBin.n39 Ybad.prog Ybad.laysBin39_ren := {
  mixed := by kernel_rfl
  f39 := Ybad.func27.trans (congrArg some (by kernel_rfl))
  t0 := Ybad.underlying0
  a0 := Ybad.isAgg0
  z0 := Ybad.sizeOf0
  v0 := Ybad.zeroValue0
  i0 := by kernel_rfl
  t5 := Ybad.underlying5
  a5 := Ybad.isAgg5
  z5 := Ybad.sizeOf5
  v5 := Ybad.zeroValue5
  i5 := by kernel_rfl
  t22 := Ybad.underlying24
  a22 := Ybad.isAgg24
  z22 := Ybad.sizeOf24
  v22 := Ybad.zeroValue24
  i22 := by kernel_rfl
  t29 := Ybad.underlying22
  a29 := Ybad.isAgg22
  z29 := Ybad.sizeOf22
  v29 := Ybad.zeroValue22
  i29 := by kernel_rfl
  t37 := Ybad.underlying61
  a37 := Ybad.isAgg61
  z37 := Ybad.sizeOf61
  v37 := Ybad.zeroValue61
  i37 := by kernel_rfl
  t45 := Ybad.underlying55
  a45 := Ybad.isAgg55
  z45 := Ybad.sizeOf55
  v45 := Ybad.zeroValue55
  i45 := by kernel_rfl }
open Go.RowKit in
theorem Ybad.binary_BE_Uint32 (g o n c : Nat) (b0 b1 b2 b3 : UInt8) (w : World) (hn : 4 ≤ n) (c0 : w.cell? ⟨g, o, none⟩ = some (.int .u8 b0.toNat)) (c1 : w.cell? ⟨g, o + 1, none⟩ = some (.int .u8 b1.toNat)) (c2 : w.cell? ⟨g, o + 2, none⟩ = some (.int .u8 b2.toNat)) (c3 : w.cell? ⟨g, o + 3, none⟩ = some (.int .u8 b3.toNat)) :
    Calls Ybad.prog 27 #[.agg #[], .slice (some ⟨g, o, none⟩) n c] w fun e w' => e = .returned (.int .u32 (Lib.beNat [b0, b1, b2, b3])) ∧ Below w.heap.size w w' := Any.binary_BE_Uint32 Ybad.laysBin39 g o n c b0 b1 b2 b3 w hn c0 c1 c2 c3
def Ybad.laysBin42_ren : Go.Shelf.Ren := ⟨fun | 42 => 20 | n => n, fun | 37 => 61 | 22 => 24 | 33 => 25 | 0 => 0 | 5 => 5 | 45 => 55 | n => n, fun | n => n⟩
theorem Ybad.laysBin42 : Go.Proofs.LaysBin.n42 Ybad.prog Ybad.laysBin42_ren := {
  mixed := by kernel_rfl
  f42 := Ybad.func20.trans (congrArg some (by kernel_rfl))
  t0 := Ybad.underlying0
  a0 := Ybad.isAgg0
  z0 := Ybad.sizeOf0
  v0 := Ybad.zeroValue0
  i0 := by kernel_rfl
  t5 := Ybad.underlying5
  a5 := Ybad.isAgg5
  z5 := Ybad.sizeOf5
  v5 := Ybad.zeroValue5
  i5 := by kernel_rfl
  t22 := Ybad.underlying24
  a22 := Ybad.isAgg24
  z22 := Ybad.sizeOf24
  v22 := Ybad.zeroValue24
  i22 := by kernel_rfl
  t33 := Ybad.underlying25
  a33 := Ybad.isAgg25
  z33 := Ybad.sizeOf25
  v33 := Ybad.zeroValue25
  i33 := by kernel_rfl
  t37 := Ybad.underlying61
  a37 := Ybad.isAgg61
  z37 := Ybad.sizeOf61
  v37 := Ybad.zeroValue61
  i37 := by kernel_rfl
  t45 := Ybad.underlying55
  a45 := Ybad.isAgg55
  z45 := Ybad.sizeOf55
  v45 := Ybad.zeroValue55
  i45 := by kernel_rfl }
open Go.RowKit in
theorem Ybad.binary_BE_Uint64 (g o n c : Nat) (b0 b1 b2 b3 b4 b5 b6 b7 : UInt8) (w : World) (hn : 8 ≤ n) (c0 : w.cell? ⟨g, o, none⟩ = some (.int .u8 b0.toNat)) (c1 : w.cell? ⟨g, o + 1, none⟩ = some (.int .u8 b1.toNat)) (c2 : w.cell? ⟨g, o + 2, none⟩ = some (.int .u8 b2.toNat)) (c3 : w.cell? ⟨g, o + 3, none⟩ = some (.int .u8 b3.toNat)) (c4 : w.cell? ⟨g, o + 4, none⟩ = some (.int .u8 b4.toNat)) (c5 : w.cell? ⟨g, o + 5, none⟩ = some (.int .u8 b5.toNat)) (c6 : w.cell? ⟨g, o + 6, none⟩ = some (.int .u8 b6.toNat)) (c7 : w.cell? ⟨g, o + 7, none⟩ = some (.int .u8 b7.toNat)) :
    Calls Ybad.prog 20 #[.agg #[], .slice (some ⟨g, o, none⟩) n c] w fun e w' => e = .returned (.int .u64 (Lib.beNat [b0, b1, b2, b3, b4, b5, b6, b7])) ∧ Below w.heap.size w w' := Any.binary_BE_Uint64 Ybad.laysBin42 g o n c b0 b1 b2 b3 b4 b5 b6 b7 w hn c0 c1 c2 c3 c4 c5 c6 c7
end Go.Proofs
