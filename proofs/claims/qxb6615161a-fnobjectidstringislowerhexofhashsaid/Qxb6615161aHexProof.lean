/-
  THE STATEMENT 'Rows.FnObjectIDStringIsLowerHexOfHashSaid': the row's step over the walk 'walk4' | 'skip4' (Qxb6615161aHexWalks.lean); the array argument is opened cell by cell by 'open_row32' (Qxb6615161aOpen.lean).
-/
import Derived.Test.Qxb6615161aHexWalks
import Derived.Test.Qxb6615161aOpen
import Derived.ProofKit
import Derived.OpenShut
import Derived.ChangeOld
import Derived.Below
namespace Go.Proofs.Qxb6615161a
open Go.ChangeShapes Go.WideShapes Go.ChangeAt Go.RowKit

theorem hex_walk (zs : List Int) (hz : zs.length = 32) (hr : ∀ i, i < 32 → 0 ≤ zs.getD i 0 ∧ zs.getD i 0 < 256) (s : Int) (w1 : (Lit.int .u8 s).wf = true) (w : World) :
    Calls Try.prog 4 #[.agg (rowV zs), .int .u8 s] w fun e w' => e = .returned (.bool true) ∧ Below w.heap.size w w' := by
  have hb := bounds_u8 w1
  obtain ⟨n, rfl⟩ := Int.eq_ofNat_of_zero_le hb.1
  by_cases hn : n = 0 ∨ n = 20 ∨ n = 32
  · exact walk4 zs hz hr n hn w
  · exact skip4 _ _ (by rw [bne_iff_ne]; omega) (by rw [bne_iff_ne]; omega) (by rw [bne_iff_ne]; omega) w

set_option maxRecDepth 100000 in
theorem hex_lifted (os : Os) (started : os.Started) (H : Type) (enc : TypeId × Value → H) :
    ReturnsInHanded {} Try.checked os 4 .any (Rows.fnObjectIDStringIsLowerHexOfHashSpec.pre6 enc Try.prog Try.f4 Rows.fnObjectIDStringIsLowerHexOfHashRow.domain false) (Rows.fnObjectIDStringIsLowerHexOfHashSpec.post enc Try.prog Try.f4 false true false false) := by
  refine returnsInHanded_of_change (C := Try.checked) own started (by kernel_rfl) Try.func4
    (ChangeSpec.witness6 (enc := enc) (C := Try.checked) false ⟨#[], #[.agg zero32, .int .u8 0], []⟩ 8 (by kernel_rfl) (by kernel_rfl) (by kernel_rfl) (by kernel_rfl)) ?_
  intro W base args ds gs before hval0 hW hcnd _
  have hval : ∀ (j : Nat) t v, Try.f4.params[j]? = some t → args[j]? = some v → Value.okWide Try.prog W .any base t v := hval0
  have hW' := hW
  obtain ⟨p, q, hA0, hV, rfl, hfz, hnd⟩ := hW
  have hA : DataW.TrodAll enc Try.prog W 0 (fun _ => true) true Try.f4.params.toList args.toList ds p := hA0
  rw [Try.params4] at hA hval
  obtain ⟨v0, vs0, d0, ds0, p0, q0, hargs, rfl, rfl, h0, r0⟩ := trodAll_cons hA
  obtain ⟨v1, vs1, d1, ds1, p1, q1, rfl, rfl, rfl, h1, r1⟩ := trodAll_cons r0
  obtain ⟨rfl, rfl, rfl⟩ := trodAll_nil r1
  obtain rfl : args = #[v0, v1] := by cases args; simp_all
  obtain ⟨rfl, rfl⟩ := trodVars_none hV
  have k0 := h0
  have lt0 : ∀ x ∈ p0, x.block < W.heap.size := by obtain ⟨m, hm⟩ := k0; exact DataW.trod_lt m _ _ _ hm
  obtain ⟨zs, rfl, hz, hr⟩ := open_row32 (hval 0 31 v0 rfl rfl) h0
  obtain ⟨a1, rfl, rfl, rfl, w1⟩ := open_int Try.underlying5 (hval 1 5 v1 rfl rfl) h1
  clear hA0 hval0
  refine (hex_walk zs hz hr a1 w1 W).mono fun e W' ⟨he, bel⟩ => ?_
  subst he
  exact ⟨_, rfl, _, _, _, [], _, [], hW', trodAll_mk1 (shut_bool Try.underlying4 _), (trodAll_cons_mk (Below.trod laidOut (by kernel_rfl) (of_decide_eq_true (by kernel_rfl)) k0 bel lt0) (trodAll_cons_mk (shut_int Try.underlying5 w1) trodAll_mk0)), rfl, bel.frame _, fun h => by cases h⟩

/-- The statement. -/
theorem fnObjectIDStringIsLowerHexOfHash_holds : Rows.FnObjectIDStringIsLowerHexOfHashSaid :=
  OpenClaim.holds_of_wide 4 Try.f4 rfl rfl rfl rfl rfl rfl rfl ⟨rfl, rfl, rfl, rfl, rfl⟩ rfl rfl rfl rfl rfl (by kernel_rfl) Try.func4 (by kernel_rfl)
    (of_decide_eq_true (by kernel_rfl)) (by unfold Func.isWrapper; first | (rw [if_pos (by decide +kernel)]; kernel_rfl) | (rw [if_neg (by decide +kernel)]; exact ⟨rfl, rfl⟩))
    (fun os started H enc _ => hex_lifted os started H enc)
#print axioms fnObjectIDStringIsLowerHexOfHash_holds
end Go.Proofs.Qxb6615161a
