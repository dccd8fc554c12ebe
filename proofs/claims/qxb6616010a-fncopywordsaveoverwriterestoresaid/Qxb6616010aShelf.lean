/-
  The library contracts that this seat's walks lean on: encoding/binary's LittleEndian.Uint64 and PutUint64, laid at this program by the kit's tools (lay-shelf, lay-plain).
-/
import Derived.Shelf.Bin.LEUint64
import Derived.Shelf.Bin.LEPutUint64
import Derived.Test.Qxb6616010aProg
namespace Go.Proofs
open Go.Shelf
def Try.laysBin33_ren : Go.Shelf.Ren := ⟨fun | 33 => 28 | n => n, fun | 25 => 68 | 22 => 22 | 33 => 70 | 0 => 0 | 5 => 5 | 45 => 79 | n => n, fun | n => n⟩
theorem Try.laysBin33 : Go.Proofs.LaysBin.n33 Try.prog Try.laysBin33_ren := {
  mixed := by kernel_rfl
  f33 := Try.func28.trans (congrArg some (by kernel_rfl))
  t0 := Try.underlying0
  a0 := Try.isAgg0
  z0 := Try.sizeOf0
  v0 := Try.zeroValue0
  i0 := by kernel_rfl
  t5 := Try.underlying5
  a5 := Try.isAgg5
  z5 := Try.sizeOf5
  v5 := Try.zeroValue5
  i5 := by kernel_rfl
  t22 := Try.underlying22
  a22 := Try.isAgg22
  z22 := Try.sizeOf22
  v22 := Try.zeroValue22
  i22 := by kernel_rfl
  t25 := Try.underlying68
  a25 := Try.isAgg68
  z25 := Try.sizeOf68
  v25 := Try.zeroValue68
  i25 := by kernel_rfl
  t33 := Try.underlying70
  a33 := Try.isAgg70
  z33 := Try.sizeOf70
  v33 := Try.zeroValue70
  i33 := by kernel_rfl
  t45 := Try.underlying79
  a45 := Try.isAgg79
  z45 := Try.sizeOf79
  v45 := Try.zeroValue79
  i45 := by kernel_rfl }
open Go.RowKit in
/-- The shelf contract, laid at this program. -/
theorem Try.binary_LE_Uint64 (g o n c : Nat) (b0 b1 b2 b3 b4 b5 b6 b7 : UInt8) (w : World) (hn : 8 ≤ n) (c0 : w.cell? ⟨g, o, none⟩ = some (.int .u8 b0.toNat)) (c1 : w.cell? ⟨g, o + 1, none⟩ = some (.int .u8 b1.toNat)) (c2 : w.cell? ⟨g, o + 2, none⟩ = some (.int .u8 b2.toNat)) (c3 : w.cell? ⟨g, o + 3, none⟩ = some (.int .u8 b3.toNat)) (c4 : w.cell? ⟨g, o + 4, none⟩ = some (.int .u8 b4.toNat)) (c5 : w.cell? ⟨g, o + 5, none⟩ = some (.int .u8 b5.toNat)) (c6 : w.cell? ⟨g, o + 6, none⟩ = some (.int .u8 b6.toNat)) (c7 : w.cell? ⟨g, o + 7, none⟩ = some (.int .u8 b7.toNat)) :
    Calls Try.prog 28 #[.agg #[], .slice (some ⟨g, o, none⟩) n c] w fun e w' => e = .returned (.int .u64 (Lib.leNat [b0, b1, b2, b3, b4, b5, b6, b7])) ∧ Below w.heap.size w w' := Any.binary_LE_Uint64 Try.laysBin33 g o n c b0 b1 b2 b3 b4 b5 b6 b7 w hn c0 c1 c2 c3 c4 c5 c6 c7
def Try.laysBin34_ren : Go.Shelf.Ren := ⟨fun | 34 => 27 | n => n, fun | 25 => 68 | 22 => 22 | 33 => 70 | 0 => 0 | 5 => 5 | 45 => 79 | n => n, fun | n => n⟩
theorem Try.laysBin34 : Go.Proofs.LaysBin.n34 Try.prog Try.laysBin34_ren := {
  mixed := by kernel_rfl
  f34 := Try.func27.trans (congrArg some (by kernel_rfl))
  t0 := Try.underlying0
  a0 := Try.isAgg0
  z0 := Try.sizeOf0
  v0 := Try.zeroValue0
  i0 := by kernel_rfl
  t5 := Try.underlying5
  a5 := Try.isAgg5
  z5 := Try.sizeOf5
  v5 := Try.zeroValue5
  i5 := by kernel_rfl
  t22 := Try.underlying22
  a22 := Try.isAgg22
  z22 := Try.sizeOf22
  v22 := Try.zeroValue22
  i22 := by kernel_rfl
  t25 := Try.underlying68
  a25 := Try.isAgg68
  z25 := Try.sizeOf68
  v25 := Try.zeroValue68
  i25 := by kernel_rfl
  t33 := Try.underlying70
  a33 := Try.isAgg70
  z33 := Try.sizeOf70
  v33 := Try.zeroValue70
  i33 := by kernel_rfl
  t45 := Try.underlying79
  a45 := Try.isAgg79
  z45 := Try.sizeOf79
  v45 := Try.zeroValue79
  i45 := by kernel_rfl }
open Go.RowKit in
/-- The shelf contract, laid at this program. -/
theorem Try.binary_LE_PutUint64 (g o n c v : Nat) (hv : v < 18446744073709551616) (x0 x1 x2 x3 x4 x5 x6 x7 : Value) (w : World) (hn : 8 ≤ n) (c0 : w.cell? ⟨g, o, none⟩ = some x0) (c1 : w.cell? ⟨g, o + 1, none⟩ = some x1) (c2 : w.cell? ⟨g, o + 2, none⟩ = some x2) (c3 : w.cell? ⟨g, o + 3, none⟩ = some x3) (c4 : w.cell? ⟨g, o + 4, none⟩ = some x4) (c5 : w.cell? ⟨g, o + 5, none⟩ = some x5) (c6 : w.cell? ⟨g, o + 6, none⟩ = some x6) (c7 : w.cell? ⟨g, o + 7, none⟩ = some x7) (f0 : w.frozen? ⟨g, o, none⟩ = false) (f1 : w.frozen? ⟨g, o + 1, none⟩ = false) (f2 : w.frozen? ⟨g, o + 2, none⟩ = false) (f3 : w.frozen? ⟨g, o + 3, none⟩ = false) (f4 : w.frozen? ⟨g, o + 4, none⟩ = false) (f5 : w.frozen? ⟨g, o + 5, none⟩ = false) (f6 : w.frozen? ⟨g, o + 6, none⟩ = false) (f7 : w.frozen? ⟨g, o + 7, none⟩ = false) :
    Calls Try.prog 27 #[.agg #[], .slice (some ⟨g, o, none⟩) n c, .int .u64 v] w fun e w' => e = .returned (.tuple #[]) ∧ w' = (w.alloc (.cells #[] 68)).setCells g o (Lib.byteCells (Lib.leBytes 8 v)) := Any.binary_LE_PutUint64 Try.laysBin34 g o n c v hv x0 x1 x2 x3 x4 x5 x6 x7 w hn c0 c1 c2 c3 c4 c5 c6 c7 f0 f1 f2 f3 f4 f5 f6 f7
end Go.Proofs
