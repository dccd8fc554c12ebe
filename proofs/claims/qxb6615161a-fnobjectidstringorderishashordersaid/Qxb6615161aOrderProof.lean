/-
  THE STATEMENT 'Rows.FnObjectIDStringOrderIsHashOrderSaid': the row's step over the walk 'walk5' | 'skip5' (Qxb6615161aOrderWalks.lean); the array argument is opened cell by cell by 'open_row32' (Qxb6615161aOpen.lean).
-/
import Derived.Test.Qxb6615161aOrderWalks
import Derived.Test.Qxb6615161aOpen
import Derived.ProofKit
import Derived.OpenShut
import Derived.ChangeOld
import Derived.Below
namespace Go.Proofs.Qxb6615161a
open Go.ChangeShapes Go.WideShapes Go.ChangeAt Go.RowKit

theorem order_walk (xs ys : List Int) (hx : xs.length = 32) (hy : ys.length = 32) (rx : ∀ i, i < 32 → 0 ≤ xs.getD i 0 ∧ xs.getD i 0 < 256) (ry : ∀ i, i < 32 → 0 ≤ ys.getD i 0 ∧ ys.getD i 0 < 256) (s : Int) (w1 : (Lit.int .u8 s).wf = true) (w : World) :
    Calls Try.prog 5 #[.agg (rowV xs), .agg (rowV ys), .int .u8 s] w fun e w' => e = .returned (.bool true) ∧ Below w.heap.size w w' := by
  have hb := bounds_u8 w1
  obtain ⟨n, rfl⟩ := Int.eq_ofNat_of_zero_le hb.1
  by_cases hn : n = 0 ∨ n = 20 ∨ n = 32
  · exact walk5 xs ys hx hy rx ry n hn w
  · exact skip5 _ _ _ (by rw [bne_iff_ne]; omega) (by rw [bne_iff_ne]; omega) (by rw [bne_iff_ne]; omega) w

set_option maxRecDepth 100000 in
theorem order_lifted (os : Os) (started : os.Started) (H : Type) (enc : TypeId × Value → H) :
    ReturnsInHanded {} Try.checked os 5 .any (Rows.fnObjectIDStringOrderIsHashOrderSpec.pre6 enc Try.prog Try.f5 Rows.fnObjectIDStringOrderIsHashOrderRow.domain false) (Rows.fnObjectIDStringOrderIsHashOrderSpec.post enc Try.prog Try.f5 false true false false) := by
  refine returnsInHanded_of_change (C := Try.checked) own started (by kernel_rfl) Try.func5
    (ChangeSpec.witness6 (enc := enc) (C := Try.checked) false ⟨#[], #[.agg zero32, .agg zero32, .int .u8 0], []⟩ 8 (by kernel_rfl) (by kernel_rfl) (by kernel_rfl) (by kernel_rfl)) ?_
  intro W base args ds gs before hval0 hW hcnd _
  have hval : ∀ (j : Nat) t v, Try.f5.params[j]? = some t → args[j]? = some v → Value.okWide Try.prog W .any base t v := hval0
  have hW' := hW
  obtain ⟨p, q, hA0, hV, rfl, hfz, hnd⟩ := hW
  have hA : DataW.TrodAll enc Try.prog W 0 (fun _ => true) true Try.f5.params.toList args.toList ds p := hA0
  rw [Try.params5] at hA hval
  obtain ⟨v0, vs0, d0, ds0, p0, q0, hargs, rfl, rfl, h0, r0⟩ := trodAll_cons hA
  obtain ⟨v1, vs1, d1, ds1, p1, q1, rfl, rfl, rfl, h1, r1⟩ := trodAll_cons r0
  obtain ⟨v2, vs2, d2, ds2, p2, q2, rfl, rfl, rfl, h2, r2⟩ := trodAll_cons r1
  obtain ⟨rfl, rfl, rfl⟩ := trodAll_nil r2
  obtain rfl : args = #[v0, v1, v2] := by cases args; simp_all
  obtain ⟨rfl, rfl⟩ := trodVars_none hV
  have k0 := h0
  have k1 := h1
  have lt0 : ∀ x ∈ p0, x.block < W.heap.size := by obtain ⟨m, hm⟩ := k0; exact DataW.trod_lt m _ _ _ hm
  have lt1 : ∀ x ∈ p1, x.block < W.heap.size := by obtain ⟨m, hm⟩ := k1; exact DataW.trod_lt m _ _ _ hm
  obtain ⟨xs, rfl, hx, rx⟩ := open_row32 (hval 0 31 v0 rfl rfl) h0
  obtain ⟨ys, rfl, hy, ry⟩ := open_row32 (hval 1 31 v1 rfl rfl) h1
  obtain ⟨a2, rfl, rfl, rfl, w2⟩ := open_int Try.underlying5 (hval 2 5 v2 rfl rfl) h2
  clear hA0 hval0
  refine (order_walk xs ys hx hy rx ry a2 w2 W).mono fun e W' ⟨he, bel⟩ => ?_
  subst he
  exact ⟨_, rfl, _, _, _, [], _, [], hW', trodAll_mk1 (shut_bool Try.underlying4 _), (trodAll_cons_mk (Below.trod laidOut (by kernel_rfl) (of_decide_eq_true (by kernel_rfl)) k0 bel lt0) (trodAll_cons_mk (Below.trod laidOut (by kernel_rfl) (of_decide_eq_true (by kernel_rfl)) k1 bel lt1) (trodAll_cons_mk (shut_int Try.underlying5 w2) trodAll_mk0))), rfl, bel.frame _, fun h => by cases h⟩

/-- The statement. -/
theorem fnObjectIDStringOrderIsHashOrder_holds : Rows.FnObjectIDStringOrderIsHashOrderSaid :=
  OpenClaim.holds_of_wide 5 Try.f5 rfl rfl rfl rfl rfl rfl rfl ⟨rfl, rfl, rfl, rfl, rfl⟩ rfl rfl rfl rfl rfl (by kernel_rfl) Try.func5 (by kernel_rfl)
    (of_decide_eq_true (by kernel_rfl)) (by unfold Func.isWrapper; first | (rw [if_pos (by decide +kernel)]; kernel_rfl) | (rw [if_neg (by decide +kernel)]; exact ⟨rfl, rfl⟩))
    (fun os started H enc _ => order_lifted os started H enc)
#print axioms fnObjectIDStringOrderIsHashOrder_holds
end Go.Proofs.Qxb6615161a
