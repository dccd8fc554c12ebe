/-
  WHAT BOTH PROOFS OF THIS SEAT SHARE: the closed facts of the program; that the heap which the program's own initialisers leave meets the rows' condition (the witness); what the condition gives the walks: the table of powers of ten.
-/
import Derived.Test.Qxb6615196aDoorShelf
import Derived.ProofKit
import Derived.LaidMore
import Derived.MakeChecks
import Derived.Lib.LaidTab
import Derived.Stop.Joined
namespace Go.Proofs.Qxb6615196aDoor
open Go.ChangeShapes Go.WideShapes Go.ChangeAt Go.RowKit

theorem own : ownKnob Tryd.prog.godebug = none := by kernel_rfl
theorem laidOut : laidOutB Tryd.prog = true := by kernel_rfl

/-- The rows' one list of variables. -/
def laid3 : List (String × DataW Unit) := Rows.fnIntNegationMirrorsSignRow.laid

theorem gTab : Tryd.prog.globalNamed tabName = some 1 := by kernel_rfl
theorem tTab : (Tryd.prog.globals[1]?).map (·.type) = some 71 := by kernel_rfl
theorem cells40 : Tryd.prog.cellsOf 40 = 1 := by kernel_rfl
theorem cells71 : Tryd.prog.cellsOf 71 = 20 := by kernel_rfl
theorem dTab : (Rows.laid_internal_strconv_uint64pow10 : DataW Unit) = Lib.tabData .u64 Lib.pow10Tab := by kernel_rfl

/-- The door's own heap meets the condition. -/
theorem door_met (os : Os) (args : Array Value) : laidMetH Tryd.prog laid3 ((World.doorLaid Tryd.prog 24 os).forCall (fun _ _ => 0) ⟨#[], args, []⟩).memory :=
  laidMetH_of_parts3 (fuel := 8) (laidMet_of_run' 8 (by kernel_rfl) (by kernel_rfl)) (by kernel_rfl) (by kernel_rfl)

/-- What the condition gives the walks. -/
theorem tab_of_laid {W : World} (h : laidMetH Tryd.prog laid3 W) : Lib.TabIs Tryd.prog W tabName .u64 Lib.pow10Tab := by
  rw [MakeChecks.laidMetH_plain _ _ _ (by kernel_rfl)] at h
  obtain ⟨ps, ⟨g0, t0, cs0, f0, p0, q0, hg0, ht0, hv0, hd0, ⟨g1, t1, cs1, f1, p1, q1, hg1, ht1, hv1, hd1, ⟨g2, t2, cs2, f2, p2, q2, hg2, ht2, hv2, hd2, _, _⟩, _⟩, _⟩, _, _⟩ := h
  obtain rfl := Option.some.inj (gTab.symm.trans hg2)
  obtain rfl := Option.some.inj (tTab.symm.trans ht2)
  unfold Lib.TabIs
  rw [dTab] at hd2
  rw [← Lib.cells_of_tab Tryd.underlying71 Tryd.underlying40 cells40 cells71 hd2]
  exact hv2
end Go.Proofs.Qxb6615196aDoor
