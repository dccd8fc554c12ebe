/-
  No cell of these rows narrows 'for every input' (looked for: loops, veiled, ifaces, maps, wideKeys, modest, calm, conditions, laid).
  DERIVED. THE GIVEN ROWS OF THIS SEAT. 2 by the template 'for every input the law returns true; each argument reads behind the call as it read before'; 0 by the template 'total and deterministic' (their statements: Qxb6615221aTotals.lean).
  GIVEN WITH THE SEED: the statements are not yours to turn. If you find one false, say at which input.
  Laid BY PROGRAM, IN A SANDBOX (cutbox-rows.mjs): the forced cells as the released guide's own fill.sh prints them over the translation bd70c079c1147272… (all of the seat's roots in one cut). By AI agents, Wed Nov 11 2026. No macro, syntax, notation, axiom, sorry.
-/
import Derived.Test.Qxb6615221aChecked
import GoSem.Claim
import GoSem.ClaimJoined
import GoSem.ClaimMapViews
import Derived.JoinedTies
import Derived.KernelRfl
namespace Go.Proofs.Qxb6615221a
/- THE CELL 'sum', in the pinned program and in every row, IS THE sha256 OF THE DUMP (.gsa) THAT Qxb6615221aProg.lean LOADS. Nothing in Lean hashes anything: it is a label: what it is worth is what the hold of that sum in a sandbox is worth. -/
noncomputable def Try.pinned : Pinned := { name := "qxb6615221a", sum := "bd70c079c1147272924d33e65258b48e4288b33098f4226b18e1bec0f9d92629", checked := Try.checked }
namespace Rows
def none {H : Type} : Left H := { results := [], args := [] }

/-- 'zzlaws_root_b1.FnFits32TurnsOnAtZeroAndOffPast32Bits': WHATEVER THE INPUT: true; the input reads as it did. -/
def fnFits32TurnsOnAtZeroAndOffPast32BitsSpec : ChangeSpec := { name := "fnFits32TurnsOnAtZeroAndOffPast32Bits", fn := fun _ => fun
  | [d] => { results := [.lit (.bool true)], args := [d] }
  | _ => none }
def fnFits32TurnsOnAtZeroAndOffPast32BitsRow : OpenClaim := { program := "qxb6615221a", sum := "bd70c079c1147272924d33e65258b48e4288b33098f4226b18e1bec0f9d92629", func := "example.com/spanfold/spanfold/zzlaws_root_b1.FnFits32TurnsOnAtZeroAndOffPast32Bits", spec := "fnFits32TurnsOnAtZeroAndOffPast32Bits", apart := false }
def FnFits32TurnsOnAtZeroAndOffPast32BitsSaid : Prop := fnFits32TurnsOnAtZeroAndOffPast32BitsRow.holds Try.pinned (OpenSpec.ofChange fnFits32TurnsOnAtZeroAndOffPast32BitsSpec)

/-- ITS FALSE NEIGHBOUR: 'it returns false'. Refute it at one input. -/
def fnFits32TurnsOnAtZeroAndOffPast32BitsWrong : ChangeSpec := { name := "fnFits32TurnsOnAtZeroAndOffPast32Bits", fn := fun _ => fun
  | [d] => { results := [.lit (.bool false)], args := [d] }
  | _ => none }
def FnFits32TurnsOnAtZeroAndOffPast32BitsWrongFalsely : Prop := fnFits32TurnsOnAtZeroAndOffPast32BitsRow.holds Try.pinned (OpenSpec.ofChange fnFits32TurnsOnAtZeroAndOffPast32BitsWrong)

/-- 'zzlaws_root_b1.FnFits32HoldsOfEveryTruncationTo32Bits': WHATEVER THE INPUT: true; the input reads as it did. -/
def fnFits32HoldsOfEveryTruncationTo32BitsSpec : ChangeSpec := { name := "fnFits32HoldsOfEveryTruncationTo32Bits", fn := fun _ => fun
  | [d] => { results := [.lit (.bool true)], args := [d] }
  | _ => none }
def fnFits32HoldsOfEveryTruncationTo32BitsRow : OpenClaim := { program := "qxb6615221a", sum := "bd70c079c1147272924d33e65258b48e4288b33098f4226b18e1bec0f9d92629", func := "example.com/spanfold/spanfold/zzlaws_root_b1.FnFits32HoldsOfEveryTruncationTo32Bits", spec := "fnFits32HoldsOfEveryTruncationTo32Bits", apart := false }
def FnFits32HoldsOfEveryTruncationTo32BitsSaid : Prop := fnFits32HoldsOfEveryTruncationTo32BitsRow.holds Try.pinned (OpenSpec.ofChange fnFits32HoldsOfEveryTruncationTo32BitsSpec)

/-- ITS FALSE NEIGHBOUR: 'it returns false'. Refute it at one input. -/
def fnFits32HoldsOfEveryTruncationTo32BitsWrong : ChangeSpec := { name := "fnFits32HoldsOfEveryTruncationTo32Bits", fn := fun _ => fun
  | [d] => { results := [.lit (.bool false)], args := [d] }
  | _ => none }
def FnFits32HoldsOfEveryTruncationTo32BitsWrongFalsely : Prop := fnFits32HoldsOfEveryTruncationTo32BitsRow.holds Try.pinned (OpenSpec.ofChange fnFits32HoldsOfEveryTruncationTo32BitsWrong)

end Rows
end Go.Proofs.Qxb6615221a
