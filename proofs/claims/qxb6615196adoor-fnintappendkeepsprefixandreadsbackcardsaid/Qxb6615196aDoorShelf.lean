/-
  The library contract that this seat's walks lean on: strconv.AppendInt at base 10, laid at this program by the kit's tools (lay-shelf, lay-plain).
-/
import Derived.Shelf.Strconv.AppendIntPublic10
import Derived.Test.Qxb6615196aDoorRows
namespace Go.Proofs
open Go.Shelf
def Tryd.lays176_ren : Go.Shelf.Ren := ⟨fun | 176 => 21 | 249 => 24 | 288 => 28 | 283 => 31 | 284 => 32 | 285 => 33 | 286 => 34 | 129 => 37 | 317 => 36 | 318 => 38 | 319 => 39 | 320 => 40 | 337 => 41 | 338 => 42 | n => n, fun | 37 => 22 | 2 => 2 | 3 => 3 | 53 => 40 | 4 => 4 | 9 => 9 | 171 => 65 | 0 => 0 | 173 => 67 | 212 => 71 | 51 => 72 | 5 => 5 | 20 => 20 | 213 => 73 | 46 => 75 | 232 => 78 | 233 => 79 | n => n, fun | 17 => 1 | 18 => 2 | 19 => 3 | n => n⟩
theorem Tryd.lays176 : Go.Proofs.LaysM.n176 Tryd.prog Tryd.lays176_ren := {
  mixed := by kernel_rfl
  f129 := Tryd.func37.trans (congrArg some (by kernel_rfl))
  f176 := Tryd.func21.trans (congrArg some (by kernel_rfl))
  f249 := Tryd.func24.trans (congrArg some (by kernel_rfl))
  f283 := Tryd.func31.trans (congrArg some (by kernel_rfl))
  f284 := Tryd.func32.trans (congrArg some (by kernel_rfl))
  f285 := Tryd.func33.trans (congrArg some (by kernel_rfl))
  f286 := Tryd.func34.trans (congrArg some (by kernel_rfl))
  f288 := Tryd.func28.trans (congrArg some (by kernel_rfl))
  f317 := Tryd.func36.trans (congrArg some (by kernel_rfl))
  f318 := Tryd.func38.trans (congrArg some (by kernel_rfl))
  f319 := Tryd.func39.trans (congrArg some (by kernel_rfl))
  f320 := Tryd.func40.trans (congrArg some (by kernel_rfl))
  f337 := Tryd.func41.trans (congrArg some (by kernel_rfl))
  f338 := Tryd.func42.trans (congrArg some (by kernel_rfl))
  t0 := Tryd.underlying0
  a0 := Tryd.isAgg0
  z0 := Tryd.sizeOf0
  v0 := Tryd.zeroValue0
  t2 := Tryd.underlying2
  a2 := Tryd.isAgg2
  z2 := Tryd.sizeOf2
  v2 := Tryd.zeroValue2
  t3 := Tryd.underlying3
  a3 := Tryd.isAgg3
  z3 := Tryd.sizeOf3
  v3 := Tryd.zeroValue3
  t4 := Tryd.underlying4
  a4 := Tryd.isAgg4
  z4 := Tryd.sizeOf4
  v4 := Tryd.zeroValue4
  t5 := Tryd.underlying5
  a5 := Tryd.isAgg5
  z5 := Tryd.sizeOf5
  v5 := Tryd.zeroValue5
  t9 := Tryd.underlying9
  a9 := Tryd.isAgg9
  z9 := Tryd.sizeOf9
  v9 := Tryd.zeroValue9
  t20 := Tryd.underlying20
  a20 := Tryd.isAgg20
  z20 := Tryd.sizeOf20
  v20 := Tryd.zeroValue20
  t37 := Tryd.underlying22
  a37 := Tryd.isAgg22
  z37 := Tryd.sizeOf22
  v37 := Tryd.zeroValue22
  t46 := Tryd.underlying75
  a46 := Tryd.isAgg75
  z46 := Tryd.sizeOf75
  v46 := Tryd.zeroValue75
  t51 := Tryd.underlying72
  a51 := Tryd.isAgg72
  z51 := Tryd.sizeOf72
  v51 := Tryd.zeroValue72
  t53 := Tryd.underlying40
  a53 := Tryd.isAgg40
  z53 := Tryd.sizeOf40
  v53 := Tryd.zeroValue40
  t171 := Tryd.underlying65
  a171 := Tryd.isAgg65
  z171 := Tryd.sizeOf65
  v171 := Tryd.zeroValue65
  t173 := Tryd.underlying67
  a173 := Tryd.isAgg67
  z173 := Tryd.sizeOf67
  v173 := Tryd.zeroValue67
  t212 := Tryd.underlying71
  a212 := Tryd.isAgg71
  z212 := Tryd.sizeOf71
  v212 := Tryd.zeroValue71
  t213 := Tryd.underlying73
  a213 := Tryd.isAgg73
  z213 := Tryd.sizeOf73
  t232 := Tryd.underlying78
  a232 := Tryd.isAgg78
  z232 := Tryd.sizeOf78
  v232 := Tryd.zeroValue78
  t233 := Tryd.underlying79
  a233 := Tryd.isAgg79
  z233 := Tryd.sizeOf79
  v233 := Tryd.zeroValue79
  g17 := by kernel_rfl
  g18 := by kernel_rfl
  g19 := by kernel_rfl
  i0 := by kernel_rfl
  i2 := by kernel_rfl
  i3 := by kernel_rfl
  i4 := by kernel_rfl
  i5 := by kernel_rfl
  i9 := by kernel_rfl
  i20 := by kernel_rfl
  i37 := by kernel_rfl
  i46 := by kernel_rfl
  i51 := by kernel_rfl
  i53 := by kernel_rfl
  i171 := by kernel_rfl
  i173 := by kernel_rfl
  i212 := by kernel_rfl
  i232 := by kernel_rfl
  i233 := by kernel_rfl
  m17 := by kernel_rfl
  m18 := by kernel_rfl
  m19 := by kernel_rfl }

namespace Qxb6615196aDoor
/-- The name of the table of powers of ten, as the given rows name it. -/
def tabName : String := Rows.fnIntNegationMirrorsSignRow.named.headD ""

open Go.RowKit Go.Lib in
/-- strconv.AppendInt at base 10 onto a row that the call owns (the shelf's contract, laid: one application). -/
theorem appendInt10 (B n : Nat) (i : Int) (h0 : -9223372036854775808 ≤ i) (h1 : i ≤ 9223372036854775807) (sv : Value) (xs : List Value) (w : World) (hown : w.ownsRow B 5 1 sv n xs) (hBw : B ≤ w.heap.size) (hlim : n + 21 ≤ 140737488355328)
    (htab : Lib.TabBelow Tryd.prog B w tabName .u64 Lib.pow10Tab) :
    Calls Tryd.prog 21 #[sv, .int .i64 i, .int .i64 10] w fun e w' => ∃ v', e = .returned v' ∧ w'.ownsRow B 5 1 v' (n + (Lib.itoa i).length) (xs ++ Lib.byteCells (Lib.itoa i)) ∧ Below B w w' ∧ Lib.OthersKept 5 none w w' :=
  Any.strconv_AppendInt_10 Tryd.lays176 B n i h0 h1 sv xs w hown hBw hlim htab
end Qxb6615196aDoor
end Go.Proofs
