/-
  THE PLAIN LAW of the order: comparing the hexadecimal texts of two rows of bytes digit by digit is comparing the bytes. No program in it.
-/
import Derived.Lib.HexFns
namespace Go.Proofs.Qxb6615161a
open Go.Lib

/-- Two rows of numbers compared place by place: -1, 0 or 1. -/
def cmpL : List Int → List Int → Int
  | x :: xs, y :: ys => if x < y then -1 else if y < x then 1 else cmpL xs ys
  | _, _ => 0

theorem cmpL_range (xs ys : List Int) : -1 ≤ cmpL xs ys ∧ cmpL xs ys ≤ 1 := by
  induction xs generalizing ys with
  | nil => cases ys <;> simp [cmpL]
  | cons x xs ih =>
    cases ys with
    | nil => simp [cmpL]
    | cons y ys =>
      simp only [cmpL]
      split
      · omega
      · split
        · omega
        · exact ih ys

theorem drop_cons {l : List Int} {k : Nat} (h : k < l.length) : l.drop k = l.getD k 0 :: l.drop (k + 1) := by
  rw [List.drop_eq_getElem_cons h, List.getD_eq_getElem?_getD, List.getElem?_eq_getElem h]
  rfl

theorem cmpL_lt {xs ys : List Int} {k : Nat} (hx : k < xs.length) (hy : k < ys.length) (h : xs.getD k 0 < ys.getD k 0) : cmpL (xs.drop k) (ys.drop k) = -1 := by
  rw [drop_cons hx, drop_cons hy, cmpL, if_pos h]
theorem cmpL_gt {xs ys : List Int} {k : Nat} (hx : k < xs.length) (hy : k < ys.length) (h : ys.getD k 0 < xs.getD k 0) : cmpL (xs.drop k) (ys.drop k) = 1 := by
  rw [drop_cons hx, drop_cons hy, cmpL, if_neg (by omega), if_pos h]
theorem cmpL_eq {xs ys : List Int} {k : Nat} (hx : k < xs.length) (hy : k < ys.length) (h : ¬ xs.getD k 0 < ys.getD k 0) (h' : ¬ ys.getD k 0 < xs.getD k 0) : cmpL (xs.drop k) (ys.drop k) = cmpL (xs.drop (k + 1)) (ys.drop (k + 1)) := by
  rw [drop_cons hx, drop_cons hy, cmpL, if_neg h, if_neg h']
theorem cmpL_end {xs ys : List Int} {k : Nat} (hx : xs.length ≤ k) : cmpL (xs.drop k) (ys.drop k) = 0 := by
  rw [List.drop_eq_nil_of_le hx]
  cases ys.drop k <;> rfl

/-- The digit of a number below 16, as a number. -/
def dg (d : Nat) : Int := ((Hx.digit d).toNat : Int)
theorem dg_mono (a b : Nat) (ha : a < 16) (hb : b < 16) : dg a < dg b ↔ a < b := by
  have : ∀ a b : Fin 16, dg a.1 < dg b.1 ↔ a.1 < b.1 := by decide
  exact this ⟨a, ha⟩ ⟨b, hb⟩

theorem nums_cons (x : Int) (xs : List Int) (h0 : 0 ≤ x) (h1 : x < 256) : Hx.nums (Lib.bytesOf (x :: xs)) = dg (x.toNat / 16) :: dg (x.toNat % 16) :: Hx.nums (Lib.bytesOf xs) := by
  have e : Lib.bytesOf (x :: xs) = UInt8.ofNat x.toNat :: Lib.bytesOf xs := by simp [Lib.bytesOf]
  rw [e]
  unfold Hx.nums
  rw [Hx.encode_cons, Hx.byte_toNat x h0 h1]
  rfl

theorem cmpL_nums (xs ys : List Int) (hx : ∀ x ∈ xs, 0 ≤ x ∧ x < 256) (hy : ∀ y ∈ ys, 0 ≤ y ∧ y < 256) : cmpL (Hx.nums (Lib.bytesOf xs)) (Hx.nums (Lib.bytesOf ys)) = cmpL xs ys := by
  induction xs generalizing ys with
  | nil =>
    have : Hx.nums (Lib.bytesOf []) = [] := rfl
    rw [this]
    cases ys <;> cases Hx.nums _ <;> rfl
  | cons x xs ih =>
    cases ys with
    | nil =>
      have : Hx.nums (Lib.bytesOf []) = [] := rfl
      rw [this]
      cases Hx.nums _ <;> rfl
    | cons y ys =>
      have bx := hx x (by simp)
      have by' := hy y (by simp)
      have e := ih ys (fun z hz => hx z (by simp [hz])) (fun z hz => hy z (by simp [hz]))
      rw [nums_cons x xs bx.1 bx.2, nums_cons y ys by'.1 by'.2]
      simp only [cmpL, dg_mono _ _ (show x.toNat / 16 < 16 by omega) (show y.toNat / 16 < 16 by omega), dg_mono _ _ (show y.toNat / 16 < 16 by omega) (show x.toNat / 16 < 16 by omega),
        dg_mono _ _ (show x.toNat % 16 < 16 by omega) (show y.toNat % 16 < 16 by omega), dg_mono _ _ (show y.toNat % 16 < 16 by omega) (show x.toNat % 16 < 16 by omega)]
      rw [e]
      repeat' split
      all_goals first | rfl | omega
end Go.Proofs.Qxb6615161a
