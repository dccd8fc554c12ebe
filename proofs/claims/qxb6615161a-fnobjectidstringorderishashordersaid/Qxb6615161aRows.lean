/-
  No cell of these rows narrows 'for every input' (looked for: loops, veiled, ifaces, maps, wideKeys, modest, calm, conditions, laid).
  DERIVED. THE GIVEN ROWS OF THIS SEAT. 3 by the template 'for every input the law returns true; each argument reads behind the call as it read before'; 0 by the template 'total and deterministic' (their statements: Qxb6615161aTotals.lean).
  GIVEN WITH THE SEED: the statements are not yours to turn. If you find one false, say at which input.
  Laid BY PROGRAM, IN A SANDBOX (cutbox-rows.mjs): the forced cells as the released guide's own fill.sh prints them over the translation c85270dc2f5811d3… (all of the seat's roots in one cut). By AI agents, Wed Nov 11 2026. No macro, syntax, notation, axiom, sorry.
-/
import Derived.Test.Qxb6615161aChecked
import GoSem.Claim
import GoSem.ClaimJoined
import GoSem.ClaimMapViews
import Derived.JoinedTies
import Derived.KernelRfl
namespace Go.Proofs.Qxb6615161a
/- THE CELL 'sum', in the pinned program and in every row, IS THE sha256 OF THE DUMP (.gsa) THAT Qxb6615161aProg.lean LOADS. Nothing in Lean hashes anything: it is a label: what it is worth is what the hold of that sum in a sandbox is worth. -/
noncomputable def Try.pinned : Pinned := { name := "qxb6615161a", sum := "c85270dc2f5811d37e8de410b154be9c0366c9633cd3f29cb80e0181fbdfa0a7", checked := Try.checked }
namespace Rows
def none {H : Type} : Left H := { results := [], args := [] }

/-- 'zzlaws_internal_gitrepo_b1.FnPushKeepsEarlierEntriesAndTheVeryCommit': WHATEVER THE INPUT: true; the input reads as it did. -/
def fnPushKeepsEarlierEntriesAndTheVeryCommitSpec : ChangeSpec := { name := "fnPushKeepsEarlierEntriesAndTheVeryCommit", fn := fun _ => fun
  | [d1, d2] => { results := [.lit (.bool true)], args := [d1, d2] }
  | _ => none }
def fnPushKeepsEarlierEntriesAndTheVeryCommitRow : OpenClaim := { program := "qxb6615161a", sum := "c85270dc2f5811d37e8de410b154be9c0366c9633cd3f29cb80e0181fbdfa0a7", func := "example.com/odd-knob/odd-knob/zzlaws_internal_gitrepo_b1.FnPushKeepsEarlierEntriesAndTheVeryCommit", spec := "fnPushKeepsEarlierEntriesAndTheVeryCommit", apart := false }
def FnPushKeepsEarlierEntriesAndTheVeryCommitSaid : Prop := fnPushKeepsEarlierEntriesAndTheVeryCommitRow.holds Try.pinned (OpenSpec.ofChange fnPushKeepsEarlierEntriesAndTheVeryCommitSpec)

/-- ITS FALSE NEIGHBOUR: 'it returns false'. Refute it at one input. -/
def fnPushKeepsEarlierEntriesAndTheVeryCommitWrong : ChangeSpec := { name := "fnPushKeepsEarlierEntriesAndTheVeryCommit", fn := fun _ => fun
  | [d1, d2] => { results := [.lit (.bool false)], args := [d1, d2] }
  | _ => none }
def FnPushKeepsEarlierEntriesAndTheVeryCommitWrongFalsely : Prop := fnPushKeepsEarlierEntriesAndTheVeryCommitRow.holds Try.pinned (OpenSpec.ofChange fnPushKeepsEarlierEntriesAndTheVeryCommitWrong)

/-- 'zzlaws_internal_gitrepo_b1.FnObjectIDStringIsLowerHexOfHash': WHATEVER THE INPUT: true; the input reads as it did. -/
def fnObjectIDStringIsLowerHexOfHashSpec : ChangeSpec := { name := "fnObjectIDStringIsLowerHexOfHash", fn := fun _ => fun
  | [d1, d2] => { results := [.lit (.bool true)], args := [d1, d2] }
  | _ => none }
def fnObjectIDStringIsLowerHexOfHashRow : OpenClaim := { program := "qxb6615161a", sum := "c85270dc2f5811d37e8de410b154be9c0366c9633cd3f29cb80e0181fbdfa0a7", func := "example.com/odd-knob/odd-knob/zzlaws_internal_gitrepo_b1.FnObjectIDStringIsLowerHexOfHash", spec := "fnObjectIDStringIsLowerHexOfHash", apart := false }
def FnObjectIDStringIsLowerHexOfHashSaid : Prop := fnObjectIDStringIsLowerHexOfHashRow.holds Try.pinned (OpenSpec.ofChange fnObjectIDStringIsLowerHexOfHashSpec)

/-- ITS FALSE NEIGHBOUR: 'it returns false'. Refute it at one input. -/
def fnObjectIDStringIsLowerHexOfHashWrong : ChangeSpec := { name := "fnObjectIDStringIsLowerHexOfHash", fn := fun _ => fun
  | [d1, d2] => { results := [.lit (.bool false)], args := [d1, d2] }
  | _ => none }
def FnObjectIDStringIsLowerHexOfHashWrongFalsely : Prop := fnObjectIDStringIsLowerHexOfHashRow.holds Try.pinned (OpenSpec.ofChange fnObjectIDStringIsLowerHexOfHashWrong)

/-- 'zzlaws_internal_gitrepo_b1.FnObjectIDStringOrderIsHashOrder': WHATEVER THE INPUT: true; the input reads as it did. -/
def fnObjectIDStringOrderIsHashOrderSpec : ChangeSpec := { name := "fnObjectIDStringOrderIsHashOrder", fn := fun _ => fun
  | [d1, d2, d3] => { results := [.lit (.bool true)], args := [d1, d2, d3] }
  | _ => none }
def fnObjectIDStringOrderIsHashOrderRow : OpenClaim := { program := "qxb6615161a", sum := "c85270dc2f5811d37e8de410b154be9c0366c9633cd3f29cb80e0181fbdfa0a7", func := "example.com/odd-knob/odd-knob/zzlaws_internal_gitrepo_b1.FnObjectIDStringOrderIsHashOrder", spec := "fnObjectIDStringOrderIsHashOrder", apart := false }
def FnObjectIDStringOrderIsHashOrderSaid : Prop := fnObjectIDStringOrderIsHashOrderRow.holds Try.pinned (OpenSpec.ofChange fnObjectIDStringOrderIsHashOrderSpec)

/-- ITS FALSE NEIGHBOUR: 'it returns false'. Refute it at one input. -/
def fnObjectIDStringOrderIsHashOrderWrong : ChangeSpec := { name := "fnObjectIDStringOrderIsHashOrder", fn := fun _ => fun
  | [d1, d2, d3] => { results := [.lit (.bool false)], args := [d1, d2, d3] }
  | _ => none }
def FnObjectIDStringOrderIsHashOrderWrongFalsely : Prop := fnObjectIDStringOrderIsHashOrderRow.holds Try.pinned (OpenSpec.ofChange fnObjectIDStringOrderIsHashOrderWrong)

end Rows
end Go.Proofs.Qxb6615161a
