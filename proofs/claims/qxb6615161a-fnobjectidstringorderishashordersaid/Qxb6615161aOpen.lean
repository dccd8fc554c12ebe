/-
  WHAT BOTH PROOFS OF THIS SEAT SHARE: the closed facts of the program, and the opening of an argument of type [32]byte: its cells are 'rowV zs', 32 numbers, each a byte's.
-/
import Derived.Test.Qxb6615161aHexWalks
import Derived.ProofKit
import Derived.OpenShut
namespace Go.Proofs.Qxb6615161a
open Go.ChangeShapes Go.WideShapes Go.ChangeAt Go.RowKit

theorem own : ownKnob Try.prog.godebug = none := by kernel_rfl
theorem laidOut : laidOutB Try.prog = true := by kernel_rfl
theorem cells31 : Try.prog.cellsOf 31 = 32 := by kernel_rfl
theorem cells5 : Try.prog.cellsOf 5 = 1 := by kernel_rfl

/-- The number that a cell holds. -/
def numOf : Value → Int
  | .int _ z => z
  | _ => 0

/-- 32 cells of zero, for the witness. -/
def zero32 : Array Value := #[.int .u8 0, .int .u8 0, .int .u8 0, .int .u8 0, .int .u8 0, .int .u8 0, .int .u8 0, .int .u8 0, .int .u8 0, .int .u8 0, .int .u8 0, .int .u8 0, .int .u8 0, .int .u8 0, .int .u8 0, .int .u8 0, .int .u8 0, .int .u8 0, .int .u8 0, .int .u8 0, .int .u8 0, .int .u8 0, .int .u8 0, .int .u8 0, .int .u8 0, .int .u8 0, .int .u8 0, .int .u8 0, .int .u8 0, .int .u8 0, .int .u8 0, .int .u8 0]

theorem open_row32 {H : Type} {enc : TypeId × Value → H} {W : World} {b b' : Nat} {sp : Nat → Bool} {held : Bool} {v : Value} {d : DataW H} {p : List MemPlace}
    (hv : Value.okWide Try.prog W .any b 31 v) (h : DataW.Trod enc Try.prog W b' sp held 31 v d p) :
    ∃ zs : List Int, v = .agg (rowV zs) ∧ zs.length = 32 ∧ ∀ i, i < 32 → 0 ≤ zs.getD i 0 ∧ zs.getD i 0 < 256 := by
  obtain ⟨cs, rfl, hsz, _⟩ : ∃ cs, v = .agg cs ∧ cs.size = Try.prog.cellsOf 31 ∧ Row.okWide Try.prog W .any b 31 cs := by
    simpa [Value.okWide, Try.underlying31] using hv
  rw [cells31] at hsz
  obtain ⟨fuel, hf⟩ := h
  obtain ⟨xs, m, _, _, _, hl, hel⟩ := DataW.trod_array Try.underlying31 hf
  rw [cells5] at hel
  have each : ∀ i, i < 32 → ∃ z : Int, cs[i]? = some (.int .u8 z) ∧ 0 ≤ z ∧ z < 256 := fun i hi => by
    have e := hel i hi
    rw [List.getElem?_eq_getElem (by omega)] at e
    obtain ⟨z, ez, _, wz⟩ := DataW.trod_int Try.underlying5 e
    have hb := bounds_u8 wz
    refine ⟨z, ?_, hb.1, by omega⟩
    have e2 := congrArg (fun l => l[0]?) ez
    simpa [Value.cells, List.getElem?_drop] using e2
  obtain ⟨l⟩ := cs
  have hl32 : l.length = 32 := by simpa using hsz
  refine ⟨l.map numOf, ?_, by simp [hl32], fun i hi => ?_⟩
  · congr 1
    unfold rowV
    congr 1
    apply List.ext_getElem?
    intro i
    by_cases hi : i < 32
    · obtain ⟨z, ez, _⟩ := each i hi
      have ez' : l[i]? = some (.int .u8 z) := by simpa using ez
      simp [ez', numOf]
    · rw [List.getElem?_eq_none (by omega), List.getElem?_eq_none (by simp; omega)]
  · obtain ⟨z, ez, h0, h1⟩ := each i hi
    have ez' : l[i]? = some (.int .u8 z) := by simpa using ez
    simp [List.getD_eq_getElem?_getD, ez', numOf, h0, h1]
end Go.Proofs.Qxb6615161a
