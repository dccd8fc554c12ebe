/-
  THE PLAIN MATHEMATICS OF DECIMAL NUMERALS that the two laws of this seat lean on: the digits of a numeral read back by 'u*10 + digit' give the number; how many digits there are. No program in it.
-/
import Derived.Lib.ItoaLen
namespace Go.Proofs.Qxb6615196aDoor
open Go.Lib

/-- What has been read behind k digits of u's numeral. -/
def acc (u k : Nat) : Nat := u / 10 ^ (nDigits u - k)

theorem pow_le_of_nDigits (u : Nat) (h : 1 ≤ u) : 10 ^ (nDigits u - 1) ≤ u := by
  induction u using Nat.strongRecOn with
  | _ u ih =>
    by_cases hu : u < 10
    · rw [nDigits_small hu]; simpa using h
    · have i := ih (u / 10) (by omega) (by omega)
      have p := nDigits_pos (u / 10)
      rw [nDigits_big hu, show nDigits (u / 10) + 1 - 1 = nDigits (u / 10) - 1 + 1 by omega, Nat.pow_succ]
      omega

theorem acc_zero (u : Nat) : acc u 0 = 0 := by
  unfold acc
  exact Nat.div_eq_of_lt (by simpa using lt_pow_nDigits u)

theorem acc_end (u : Nat) : acc u (nDigits u) = u := by
  unfold acc
  rw [Nat.sub_self]
  simp

theorem acc_le (u k : Nat) : acc u k ≤ u := Nat.div_le_self _ _

/-- The digit at place k from the left, as a number. -/
def dig (u k : Nat) : Nat := u / 10 ^ (nDigits u - 1 - k) % 10

theorem dig_le (u k : Nat) : dig u k ≤ 9 := by unfold dig; omega

theorem acc_succ (u k : Nat) (h : k < nDigits u) : acc u (k + 1) = acc u k * 10 + dig u k := by
  unfold acc dig
  rw [show nDigits u - (k + 1) = nDigits u - 1 - k by omega, show nDigits u - k = nDigits u - 1 - k + 1 by omega, Nat.pow_succ, ← Nat.div_div_eq_div_mul]
  omega

theorem decDigits_at (u k : Nat) (h : k < nDigits u) : (decDigits u)[k]? = some (UInt8.ofNat (48 + dig u k)) := by
  rw [decDigits_eq, List.getElem?_map, List.getElem?_range h]
  rfl

theorem digit_toNat (u k : Nat) : (UInt8.ofNat (48 + dig u k)).toNat = 48 + dig u k := by
  have := dig_le u k
  rw [UInt8.toNat_ofNat']
  omega

/-- The first digit of a number that is not 0 is not 0. -/
theorem dig_first (u : Nat) (h : 1 ≤ u) : 1 ≤ dig u 0 := by
  have e := acc_succ u 0 (nDigits_pos u)
  rw [acc_zero] at e
  have p := pow_le_of_nDigits u h
  have q : 1 ≤ acc u (0 + 1) := by
    unfold acc
    rw [Nat.zero_add]
    exact (Nat.le_div_iff_mul_le (Nat.pow_pos (by decide))).2 (by omega)
  omega

theorem nDigits_le19 (u : Nat) (h : u ≤ 9223372036854775808) : nDigits u ≤ 19 := by
  rcases Nat.eq_zero_or_pos u with rfl | h1
  · rw [nDigits_small (by omega)]; omega
  · have p := pow_le_of_nDigits u h1
    rcases Nat.lt_or_ge (nDigits u) 20 with q | q
    · omega
    · have : 10 ^ 19 ≤ 10 ^ (nDigits u - 1) := Nat.pow_le_pow_right (by decide) (by omega)
      omega

/-- 'the least k of at least 1 with 10^k > u' is the number of digits. -/
theorem nDigits_of_pow (u k : Nat) (hk : 1 ≤ k) (h1 : u < 10 ^ k) (h2 : k = 1 ∨ 10 ^ (k - 1) ≤ u) : nDigits u = k := by
  rcases h2 with rfl | h2
  · exact nDigits_small (by simpa using h1)
  · obtain ⟨j, rfl⟩ : ∃ j, k = j + 1 := ⟨k - 1, by omega⟩
    exact nDigits_unique j u (by simpa using h2) h1
end Go.Proofs.Qxb6615196aDoor
