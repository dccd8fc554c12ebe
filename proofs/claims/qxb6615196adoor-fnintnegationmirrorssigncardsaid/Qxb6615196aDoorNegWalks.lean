/-
  THE WALK of the law FnIntNegationMirrorsSign (5): four roads: the least int64, zero, a positive number, a negative one.
-/
import Derived.Test.Qxb6615196aDoorSmall
namespace Go.Proofs.Qxb6615196aDoor
open Go.RowKit

theorem neg_least (w : World) :
    Calls Tryd.prog 5 #[.int .i64 (-9223372036854775808)] w fun e w' => e = .returned (.bool true) ∧ Below w.heap.size w w' := by
  go_enter Tryd.func5, Tryd.ntmps5
  go_wp2
  go_ret
  exact ⟨rfl, Below.refl _ _⟩

set_option maxHeartbeats 1000000 in
theorem neg_zero (w : World) (htab : Lib.TabIs Tryd.prog w tabName .u64 Lib.pow10Tab) :
    Calls Tryd.prog 5 #[.int .i64 0] w fun e w' => e = .returned (.bool true) ∧ Below w.heap.size w w' := by
  have J1 := Lib.hid (fun w => json_pos 0 (by omega) w)
  have n1 : Lib.nDigits 0 = 1 := Lib.nDigits_small (by omega)
  have d0 : dig 0 0 = 0 := by unfold dig; simp
  rw [n1] at J1
  have HT := Lib.hid htab
  clear htab
  go_enter Tryd.func5, Tryd.ntmps5
  go_wp2_with fail
  refine (J1.out _ HT.out).mono ?_
  rintro e w1 ⟨g1, c1, rfl, hg1, hg1', hc1, hcell1, hb1, ht1⟩
  have e1 : w1.cell? ⟨g1, 0, none⟩ = some (.int .u8 48) := by rw [hcell1 0 (by omega), d0]; rfl
  have HT1 := Lib.hid ht1
  have HB1 := Lib.hid hb1
  clear hb1 ht1 hcell1
  go_wp2_with fail
  refine (J1.out _ HT1.out).mono ?_
  rintro e w2 ⟨g2, c2, rfl, hg2, hg2', hc2, hcell2, hb2, ht2⟩
  have f1 : w2.cell? ⟨g1, 0, none⟩ = some (.int .u8 48) := by rw [hb2.cell (p := ⟨g1, 0, none⟩) hg1']; exact e1
  have f2 : w2.cell? ⟨g2, 0, none⟩ = some (.int .u8 48) := by rw [hcell2 0 (by omega), d0]; rfl
  have HB2 := Lib.hid (HB1.out.trans (hb2.mono HB1.out.size))
  have F := Lib.hid (And.intro f1 f2)
  clear e1 f1 f2 hb2 ht2 hcell2
  go_wp2_with fail
  refine (eqS_one g1 c1 w2 F.out.1).mono ?_
  rintro e w3 ⟨rfl, hb3⟩
  have HB3 := Lib.hid hb3
  clear hb3
  go_wp2_with fail
  refine (eqS_one g2 c2 w3 ((HB3.out.cell (p := ⟨g2, 0, none⟩) hg2').trans F.out.2)).mono ?_
  rintro e w4 ⟨rfl, hb4⟩
  have HB4 := Lib.hid hb4
  clear hb4
  go_wp2
  go_ret
  have k2 := HB2.out.size
  have k3 := HB3.out.size
  exact ⟨rfl, HB2.out.trans ((HB3.out.mono k2).trans (HB4.out.mono (by omega)))⟩

set_option maxHeartbeats 1000000 in
theorem neg_pos (u : Nat) (h1 : 1 ≤ u) (hu : u ≤ 9223372036854775807) (w : World) (htab : Lib.TabIs Tryd.prog w tabName .u64 Lib.pow10Tab) :
    Calls Tryd.prog 5 #[.int .i64 (u : Int)] w fun e w' => e = .returned (.bool true) ∧ Below w.heap.size w w' := by
  have J1 := Lib.hid (fun w => json_pos u hu w)
  have J2 := Lib.hid (fun w => json_neg u h1 (by omega) w)
  have CT := Lib.hid (fun w => count_any u (by omega) w)
  have RD := Lib.hid (fun g cap w h => read_pos g cap (Lib.nDigits u) (fun k => 48 + (dig u k : Int)) (fun k => (acc u k : Int)) (Lib.nDigits_pos u) (nDigits_le19 u (by omega)) (fun k _ => by have := dig_le u k; omega)
    (by show ((acc u 0 : Nat) : Int) = 0; rw [acc_zero]; rfl) (fun k hk => by show ((acc u (k + 1) : Nat) : Int) = _; rw [acc_succ u k hk]; omega)
    (fun k _ => by have := acc_le u k; omega) (fun h => by have := dig_first u h1; omega) w h)
  have e1 : ((acc u (Lib.nDigits u) : Nat) : Int) = u := by rw [acc_end]
  rw [e1] at RD
  have d1 := dig_first u h1
  have d2 := dig_le u 0
  have l1 := Lib.nDigits_pos u
  have l2 := nDigits_le19 u (by omega)
  have HD : Hid (∃ d : Int, d = 48 + (dig u 0 : Int)) := ⟨_, rfl⟩
  generalize Lib.nDigits u = L at *
  obtain ⟨d, hd⟩ := HD.out
  have d3 : 49 ≤ d := by omega
  have d4 : d ≤ 57 := by omega
  have HDD := Lib.hid hd
  have HT := Lib.hid htab
  have U1 := Lib.hid h1
  clear htab d1 d2 hd e1
  have n0 : ((u : Int) == 0) = false := by simp; omega
  go_enter Tryd.func5, Tryd.ntmps5
  go_wp2_with fail
  refine (J1.out _ HT.out).mono ?_
  rintro e w1 ⟨g1, c1, rfl, hg1, hg1', hc1, hcell1, hb1, ht1⟩
  have HT1 := Lib.hid ht1
  have HB1 := Lib.hid hb1
  have HC1 := Lib.hid hcell1
  clear hb1 ht1 hcell1
  go_wp2_with fail
  refine (J2.out _ HT1.out).mono ?_
  rintro e w2 ⟨g2, c2, rfl, hg2, hg2', hc2, h45, hcell2, hb2, ht2⟩
  have HB2 := Lib.hid (HB1.out.trans (hb2.mono HB1.out.size))
  have HC1' := Lib.hid (fun k (hk : k < L) => (hb2.cell (p := ⟨g1, k, none⟩) hg1').trans (HC1.out k hk))
  have HC2 := Lib.hid hcell2
  have f0 : w2.cell? ⟨g1, 0, none⟩ = some (.int .u8 d) := by rw [HC1'.out 0 (by omega), HDD.out]
  clear hb2 ht2 hcell2
  go_wp2_with fail
  refine (CT.out _).mono ?_
  rintro e w3 ⟨rfl, rfl⟩
  go_wp2_with fail
  refine (RD.out g1 c1 _ HC1'.out).mono ?_
  rintro e w4 ⟨rfl, rfl⟩
  go_wp2_with fail
  refine (eq_rows g2 1 _ g1 0 c1 L (fun k => 48 + (dig u k : Int)) (by omega) _ (fun k hk => by rw [Nat.add_comm]; exact HC2.out k hk) (fun k hk => by rw [Nat.zero_add]; exact HC1'.out k hk)).mono ?_
  rintro e w5 ⟨rfl, hb5⟩
  have HB5 := Lib.hid hb5
  clear hb5
  go_wp2
  go_ret
  exact ⟨rfl, HB2.out.trans (HB5.out.mono HB2.out.size)⟩

set_option maxHeartbeats 1000000 in
theorem neg_neg' (u : Nat) (h1 : 1 ≤ u) (hu : u ≤ 9223372036854775807) (w : World) (htab : Lib.TabIs Tryd.prog w tabName .u64 Lib.pow10Tab) :
    Calls Tryd.prog 5 #[.int .i64 (-(u : Int))] w fun e w' => e = .returned (.bool true) ∧ Below w.heap.size w w' := by
  have J1 := Lib.hid (fun w => json_pos u hu w)
  have J2 := Lib.hid (fun w => json_neg u h1 (by omega) w)
  have CT := Lib.hid (fun w => count_any u (by omega) w)
  have RD := Lib.hid (fun g cap w h => read_pos g cap (Lib.nDigits u) (fun k => 48 + (dig u k : Int)) (fun k => (acc u k : Int)) (Lib.nDigits_pos u) (nDigits_le19 u (by omega)) (fun k _ => by have := dig_le u k; omega)
    (by show ((acc u 0 : Nat) : Int) = 0; rw [acc_zero]; rfl) (fun k hk => by show ((acc u (k + 1) : Nat) : Int) = _; rw [acc_succ u k hk]; omega)
    (fun k _ => by have := acc_le u k; omega) (fun h => by have := dig_first u h1; omega) w h)
  have e1 : ((acc u (Lib.nDigits u) : Nat) : Int) = u := by rw [acc_end]
  rw [e1] at RD
  have d1 := dig_first u h1
  have d2 := dig_le u 0
  have l1 := Lib.nDigits_pos u
  have l2 := nDigits_le19 u (by omega)
  have HD : Hid (∃ d : Int, d = 48 + (dig u 0 : Int)) := ⟨_, rfl⟩
  generalize Lib.nDigits u = L at *
  obtain ⟨d, hd⟩ := HD.out
  have d3 : 49 ≤ d := by omega
  have d4 : d ≤ 57 := by omega
  have HDD := Lib.hid hd
  have HT := Lib.hid htab
  have U1 := Lib.hid h1
  clear htab d1 d2 hd e1
  have n0 : (-(u : Int) == 0) = false := by rw [beq_eq_false_iff_ne]; omega
  have nl : (-(u : Int) == -9223372036854775808) = false := by rw [beq_eq_false_iff_ne]; omega
  have nn : -(u : Int) < 0 := by omega
  go_enter Tryd.func5, Tryd.ntmps5
  go_wp2_with fail
  refine (J2.out _ HT.out).mono ?_
  rintro e w1 ⟨g2, c2, rfl, hg2, hg2', hc2, h45', hcell2, hb1, ht1⟩
  have HT1 := Lib.hid ht1
  have HB1 := Lib.hid hb1
  have HC2' := Lib.hid (And.intro h45' hcell2)
  clear hb1 ht1 hcell2 h45'
  go_wp2_with fail
  refine (J1.out _ HT1.out).mono ?_
  rintro e w2 ⟨g1, c1, rfl, hg1, hg1', hc1, hcell1, hb2, ht2⟩
  have HB2 := Lib.hid (HB1.out.trans (hb2.mono HB1.out.size))
  have h45 : w2.cell? ⟨g2, 0, none⟩ = some (.int .u8 45) := (hb2.cell (p := ⟨g2, 0, none⟩) hg2').trans HC2'.out.1
  have HC2 := Lib.hid (fun k (hk : k < L) => (hb2.cell (p := ⟨g2, k + 1, none⟩) hg2').trans (HC2'.out.2 k hk))
  have HC1' := Lib.hid hcell1
  have f0 : w2.cell? ⟨g1, 0, none⟩ = some (.int .u8 d) := by rw [HC1'.out 0 (by omega), HDD.out]
  clear hb2 ht2 hcell1
  go_wp2_with fail
  refine (CT.out _).mono ?_
  rintro e w3 ⟨rfl, rfl⟩
  go_wp2_with fail
  refine (RD.out g1 c1 _ HC1'.out).mono ?_
  rintro e w4 ⟨rfl, rfl⟩
  go_wp2_with fail
  refine (eq_rows g2 1 _ g1 0 c1 L (fun k => 48 + (dig u k : Int)) (by omega) _ (fun k hk => by rw [Nat.add_comm]; exact HC2.out k hk) (fun k hk => by rw [Nat.zero_add]; exact HC1'.out k hk)).mono ?_
  rintro e w5 ⟨rfl, hb5⟩
  have HB5 := Lib.hid hb5
  clear hb5
  go_wp2
  go_ret
  exact ⟨rfl, HB2.out.trans (HB5.out.mono HB2.out.size)⟩

/-- The law FnIntNegationMirrorsSign, for every int64. -/
theorem neg_walk (n : Int) (h0 : -9223372036854775808 ≤ n) (h1 : n ≤ 9223372036854775807) (w : World) (htab : Lib.TabIs Tryd.prog w tabName .u64 Lib.pow10Tab) :
    Calls Tryd.prog 5 #[.int .i64 n] w fun e w' => e = .returned (.bool true) ∧ Below w.heap.size w w' := by
  by_cases hl : n = -9223372036854775808
  · subst hl; exact neg_least w
  by_cases hz : n = 0
  · subst hz; exact neg_zero w htab
  by_cases hp : 0 < n
  · obtain ⟨u, rfl⟩ := Int.eq_ofNat_of_zero_le (Int.le_of_lt hp)
    exact neg_pos u (by omega) (by omega) w htab
  · obtain ⟨u, hu⟩ : ∃ u : Nat, n = -(u : Int) := ⟨n.natAbs, by omega⟩
    subst hu
    exact neg_neg' u (by omega) (by omega) w htab
end Go.Proofs.Qxb6615196aDoor
