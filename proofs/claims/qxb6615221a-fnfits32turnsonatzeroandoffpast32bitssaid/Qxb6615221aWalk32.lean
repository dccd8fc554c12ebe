/-
  THE WALKS of this seat: ZZFits32 (5) in three cases; the two laws (3, 4), one walk a case.
-/
import Derived.Test.Qxb6615221aRows
import Derived.WalkKit
import Derived.WalkSpells
namespace Go.Proofs.Qxb6615221a
open Go.RowKit

theorem fits_yes (n : Int) (h0 : 0 ≤ n) (h1 : n ≤ 4294967295) (w : World) :
    Calls Try.prog 5 #[.int .i64 n] w fun e w' => e = .returned (.bool true) ∧ w' = w := by
  go_enter Try.func5, Try.ntmps5
  go_wp2
  go_ret
  exact ⟨rfl, rfl⟩
theorem fits_neg (n : Int) (h0 : n < 0) (w : World) :
    Calls Try.prog 5 #[.int .i64 n] w fun e w' => e = .returned (.bool false) ∧ w' = w := by
  have h2 : ¬ 0 ≤ n := by omega
  go_enter Try.func5, Try.ntmps5
  go_wp2
  go_ret
  exact ⟨rfl, rfl⟩
theorem fits_big (n : Int) (h0 : 4294967296 ≤ n) (h1 : n ≤ 9223372036854775807) (w : World) :
    Calls Try.prog 5 #[.int .i64 n] w fun e w' => e = .returned (.bool false) ∧ w' = w := by
  have h2 : 0 ≤ n := by omega
  have h3 : ¬ n ≤ 4294967295 := by omega
  go_enter Try.func5, Try.ntmps5
  go_wp2
  go_ret
  exact ⟨rfl, rfl⟩

/-! ### The law FnFits32TurnsOnAtZeroAndOffPast32Bits (3) -/
theorem on_least (w : World) : Calls Try.prog 3 #[.int .i64 (-9223372036854775808)] w fun e w' => e = .returned (.bool true) ∧ w' = w := by
  go_enter Try.func3, Try.ntmps3
  go_wp2
  go_ret
  exact ⟨rfl, rfl⟩
theorem on_neg (n : Int) (h0 : -9223372036854775807 ≤ n) (h1 : n < 0) (w : World) : Calls Try.prog 3 #[.int .i64 n] w fun e w' => e = .returned (.bool true) ∧ w' = w := by
  have t0 : (n == -9223372036854775808) = false := by rw [beq_eq_false_iff_ne]; omega
  have t1 : (n == 0) = false := by rw [beq_eq_false_iff_ne]; omega
  have t2 : ¬ 0 < n := by omega
  have t3 : ¬ 0 ≤ n := by omega
  go_enter Try.func3, Try.ntmps3
  go_wp2_with (go_at_call 5; refine (fits_neg _ (by omega) _).mono ?_; rintro e w' ⟨rfl, rfl⟩)
  go_ret
  exact ⟨rfl, rfl⟩
theorem on_zero (w : World) : Calls Try.prog 3 #[.int .i64 0] w fun e w' => e = .returned (.bool true) ∧ w' = w := by
  go_enter Try.func3, Try.ntmps3
  go_wp2_with fail
  refine (fits_yes 0 (by omega) (by omega) _).mono ?_
  rintro e w1 ⟨rfl, rfl⟩
  go_wp2_with fail
  refine (fits_neg (-1) (by omega) _).mono ?_
  rintro e w2 ⟨rfl, rfl⟩
  go_wp2
  go_ret
  exact ⟨rfl, rfl⟩
theorem on_mid (n : Int) (h0 : 0 < n) (h1 : n ≤ 4294967295) (w : World) : Calls Try.prog 3 #[.int .i64 n] w fun e w' => e = .returned (.bool true) ∧ w' = w := by
  have t0 : (n == -9223372036854775808) = false := by rw [beq_eq_false_iff_ne]; omega
  have t1 : (n == 0) = false := by rw [beq_eq_false_iff_ne]; omega
  have t2 : (n == 4294967296) = false := by rw [beq_eq_false_iff_ne]; omega
  have t3 : 0 ≤ n := by omega
  go_enter Try.func3, Try.ntmps3
  go_wp2_with (go_at_call 5; refine (fits_yes _ (by omega) (by omega) _).mono ?_; rintro e w' ⟨rfl, rfl⟩)
  go_ret
  exact ⟨rfl, rfl⟩
theorem on_edge (w : World) : Calls Try.prog 3 #[.int .i64 4294967296] w fun e w' => e = .returned (.bool true) ∧ w' = w := by
  go_enter Try.func3, Try.ntmps3
  go_wp2_with fail
  refine (fits_big 4294967296 (by omega) (by omega) _).mono ?_
  rintro e w1 ⟨rfl, rfl⟩
  go_wp2_with fail
  refine (fits_yes 4294967295 (by omega) (by omega) _).mono ?_
  rintro e w2 ⟨rfl, rfl⟩
  go_wp2
  go_ret
  exact ⟨rfl, rfl⟩
theorem on_big (n : Int) (h0 : 4294967297 ≤ n) (h1 : n ≤ 9223372036854775807) (w : World) : Calls Try.prog 3 #[.int .i64 n] w fun e w' => e = .returned (.bool true) ∧ w' = w := by
  have t0 : (n == -9223372036854775808) = false := by rw [beq_eq_false_iff_ne]; omega
  have t1 : (n == 0) = false := by rw [beq_eq_false_iff_ne]; omega
  have t2 : (n == 4294967296) = false := by rw [beq_eq_false_iff_ne]; omega
  have t3 : 0 ≤ n := by omega
  have t4 : 0 < n := by omega
  have t5 : (n % 4294967296 == n) = false := by rw [beq_eq_false_iff_ne]; omega
  go_enter Try.func3, Try.ntmps3
  go_wp2_with (go_at_call 5; refine (fits_big _ (by omega) (by omega) _).mono ?_; rintro e w' ⟨rfl, rfl⟩)
  go_ret
  exact ⟨rfl, rfl⟩

/-- The law, for every int. -/
theorem on_walk (n : Int) (h0 : -9223372036854775808 ≤ n) (h1 : n ≤ 9223372036854775807) (w : World) : Calls Try.prog 3 #[.int .i64 n] w fun e w' => e = .returned (.bool true) ∧ w' = w := by
  by_cases a : n = -9223372036854775808
  · subst a; exact on_least w
  by_cases b : n < 0
  · exact on_neg n (by omega) b w
  by_cases c : n = 0
  · subst c; exact on_zero w
  by_cases d : n ≤ 4294967295
  · exact on_mid n (by omega) d w
  by_cases e : n = 4294967296
  · subst e; exact on_edge w
  · exact on_big n (by omega) h1 w

/-! ### The law FnFits32HoldsOfEveryTruncationTo32Bits (4) -/
theorem cut_in (n : Int) (h0 : 0 ≤ n) (h1 : n ≤ 4294967295) (w : World) : Calls Try.prog 4 #[.int .i64 n] w fun e w' => e = .returned (.bool true) ∧ w' = w := by
  go_enter Try.func4, Try.ntmps4
  go_wp2_with (go_at_call 5; refine (fits_yes _ (by omega) (by omega) _).mono ?_; rintro e w' ⟨rfl, rfl⟩)
  go_ret
  exact ⟨rfl, rfl⟩
theorem cut_neg (n : Int) (h0 : -9223372036854775808 ≤ n) (h1 : n < 0) (w : World) : Calls Try.prog 4 #[.int .i64 n] w fun e w' => e = .returned (.bool true) ∧ w' = w := by
  have t0 : (n % 4294967296 == n) = false := by rw [beq_eq_false_iff_ne]; omega
  go_enter Try.func4, Try.ntmps4
  go_wp2_with fail
  refine (fits_yes _ (by omega) (by omega) _).mono ?_
  rintro e w1 ⟨rfl, rfl⟩
  go_wp2_with fail
  refine (fits_neg _ (by omega) _).mono ?_
  rintro e w2 ⟨rfl, rfl⟩
  go_wp2
  go_ret
  exact ⟨rfl, rfl⟩
theorem cut_big (n : Int) (h0 : 4294967296 ≤ n) (h1 : n ≤ 9223372036854775807) (w : World) : Calls Try.prog 4 #[.int .i64 n] w fun e w' => e = .returned (.bool true) ∧ w' = w := by
  have t0 : (n % 4294967296 == n) = false := by rw [beq_eq_false_iff_ne]; omega
  go_enter Try.func4, Try.ntmps4
  go_wp2_with fail
  refine (fits_yes _ (by omega) (by omega) _).mono ?_
  rintro e w1 ⟨rfl, rfl⟩
  go_wp2_with fail
  refine (fits_big _ (by omega) (by omega) _).mono ?_
  rintro e w2 ⟨rfl, rfl⟩
  go_wp2
  go_ret
  exact ⟨rfl, rfl⟩
/-- The law, for every int. -/
theorem cut_walk (n : Int) (h0 : -9223372036854775808 ≤ n) (h1 : n ≤ 9223372036854775807) (w : World) : Calls Try.prog 4 #[.int .i64 n] w fun e w' => e = .returned (.bool true) ∧ w' = w := by
  by_cases a : n < 0
  · exact cut_neg n h0 a w
  by_cases b : n ≤ 4294967295
  · exact cut_in n (by omega) b w
  · exact cut_big n (by omega) h1 w
end Go.Proofs.Qxb6615221a
