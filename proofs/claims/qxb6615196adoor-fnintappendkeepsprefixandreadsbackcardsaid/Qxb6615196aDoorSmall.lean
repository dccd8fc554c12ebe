/-
  THE WALKS of this seat's small functions: zzDigitCount (19), zzEq (15), zzEqS (12), zzReadDec (18), and Int.AppendJSON (14) over the shelf's contract on strconv.AppendInt.
-/
import Derived.Test.Qxb6615196aDoorShelf
import Derived.Test.Qxb6615196aDoorDec
import Derived.WalkKit
import Derived.WalkSpells
import Derived.WalkLawsBesides
import Derived.Lib.Hide
import Derived.Deep.QuietTactic
import Derived.BigQuiet
namespace Go.Proofs.Qxb6615196aDoor
open Go.RowKit

theorem ret_int {k : IntKind} {a b : Int} (h : a = b) : Ending.returned (.int k a) = .returned (.int k b) := by rw [h]

theorem ret_pair {a b : Int} {c : Bool} (h : a = b) : Ending.returned (.tuple #[.int .i64 a, .bool c]) = .returned (.tuple #[.int .i64 b, .bool c]) := by rw [h]

/-! ### zzDigitCount (19) -/
set_option maxHeartbeats 400000 in
theorem count_any (u : Nat) (hu : u ≤ 9223372036854775808) (w : World) :
    Calls Tryd.prog 19 #[.int .u64 u] w fun e w' => e = .returned (.int .i64 (Lib.nDigits u)) ∧ w' = w := by
  go_enter Tryd.func19, Tryd.ntmps19
  go_wp2
  go_loop [3, 4] (fun k pw => ∃ j : Nat, 1 ≤ j ∧ j ≤ 19 ∧ k = .int .i64 j ∧ pw = .int .u64 ((10 ^ j : Nat) : Int) ∧ Hid (j = 1 ∨ 10 ^ (j - 1) ≤ u)) (fun k _ => 19 - (intOf k).toNat)
  case atStart => exact ⟨1, by omega, by omega, rfl, rfl, .inl rfl⟩
  case round =>
    obtain ⟨j, h1, h2, rfl, rfl, hj⟩ := hrel
    obtain ⟨p, hp⟩ : ∃ p : Nat, p = 10 ^ j := ⟨_, rfl⟩
    have hp18 : j < 19 → p ≤ 1000000000000000000 := fun h => by
      rw [hp]
      have : 10 ^ j ≤ 10 ^ 18 := Nat.pow_le_pow_right (by decide) (by omega)
      omega
    have hfin : u < p → Lib.nDigits u = j := fun h => nDigits_of_pow u j h1 (by rw [← hp]; exact h) hj.out
    have hfin2 : ¬ j < 19 → Lib.nDigits u = j := fun h => hfin (by
      rw [hp, show j = 19 by omega]
      omega)
    rw [← hp]
    have HP := Lib.hid hp
    have HF := Lib.hid hfin
    have HF2 := Lib.hid hfin2
    clear hp hfin hfin2
    by_cases hlt : j < 19
    · have hp' := hp18 hlt
      clear hp18
      by_cases hle : p ≤ u
      · have hb : p * 10 < 18446744073709551616 := by omega
        go_wp2
        go_round
        case rel =>
          have e : ((p * 10 : Nat) : Int) = ((10 ^ (j + 1) : Nat) : Int) := by rw [HP.out, Nat.pow_succ]
          refine ⟨j + 1, by omega, by omega, by go_num, ?_, .inr (by rw [Nat.add_sub_cancel, ← HP.out]; exact hle)⟩
          rw [← e]
          go_num
        case measure => simp [intOf]; omega
      · go_wp2
        go_ret
        exact ⟨ret_int (by rw [HF.out (by omega)]), rfl⟩
    · clear hp18
      go_wp2
      go_ret
      exact ⟨ret_int (by rw [HF2.out hlt]), rfl⟩

/-! ### zzEq (15) and zzEqS (12) -/
theorem eq_empty (a b : Option Addr) (c d : Nat) (w : World) :
    Calls Tryd.prog 15 #[.slice a 0 c, .slice b 0 d] w fun e w' => e = .returned (.bool true) ∧ Below w.heap.size w w' := by
  go_enter Tryd.func15, Tryd.ntmps15
  go_wp2
  go_loop [5] (fun i => i = .int .i64 0) (fun _ => 0)
  case atStart => rfl
  case round =>
    obtain rfl := hrel
    go_wp2
    go_ret
    exact ⟨rfl, Below.refl _ _⟩

set_option maxHeartbeats 400000 in
theorem eq_rows (g o c g' o' c' n : Nat) (f : Nat → Int) (hn : n ≤ 140737488355328) (w : World)
    (h1 : ∀ k, k < n → w.cell? ⟨g, o + k, none⟩ = some (.int .u8 (f k))) (h2 : ∀ k, k < n → w.cell? ⟨g', o' + k, none⟩ = some (.int .u8 (f k))) :
    Calls Tryd.prog 15 #[.slice (some ⟨g, o, none⟩) n c, .slice (some ⟨g', o', none⟩) n c'] w fun e w' => e = .returned (.bool true) ∧ Below w.heap.size w w' := by
  have H1 := Lib.hid h1
  have H2 := Lib.hid h2
  clear h1 h2
  go_enter Tryd.func15, Tryd.ntmps15
  go_wp2
  go_loopw [5] (fun i wr => ∃ k : Nat, k ≤ n ∧ i = .int .i64 k ∧ Hid (∀ a, wr.cell? a = w.cell? a) ∧ Hid (Below w.heap.size w wr)) (fun i _ => n - (intOf i).toNat)
  case atStart => exact ⟨0, Nat.zero_le _, rfl, fun _ => rfl, Below.refl _ _⟩
  case round =>
    obtain ⟨k, hk, rfl, hq, HB⟩ := hrel
    by_cases hlt : k < n
    · have e1 : wr.cell? ⟨g, o + k, none⟩ = some (.int .u8 (f k)) := (hq.out _).trans (H1.out k hlt)
      have e2 : wr.cell? ⟨g', o' + k, none⟩ = some (.int .u8 (f k)) := (hq.out _).trans (H2.out k hlt)
      have hlt' : (k : Int) < (n : Int) := by omega
      generalize f k = x at e1 e2
      go_wp2
      go_quiet (fail)
      go_wp2
      go_roundw
      case rel => exact ⟨k + 1, by omega, by go_num, fun a => hq.out a, below_drewN HB.out _⟩
      case measure => simp [intOf]; omega
    · go_wp2
      go_ret
      exact ⟨rfl, HB.out⟩

set_option maxHeartbeats 400000 in
/-- zzEqS at one byte and its own text. -/
theorem eqS_one (g c : Nat) (w : World) (h1 : w.cell? ⟨g, 0, none⟩ = some (.int .u8 48)) :
    Calls Tryd.prog 12 #[.slice (some ⟨g, 0, none⟩) 1 c, .string ⟨#[48]⟩] w fun e w' => e = .returned (.bool true) ∧ Below w.heap.size w w' := by
  have H1 := Lib.hid h1
  clear h1
  go_enter Tryd.func12, Tryd.ntmps12
  go_wp2
  go_loopw [5] (fun i wr => ∃ k : Nat, k ≤ 1 ∧ i = .int .i64 k ∧ Hid (∀ a, wr.cell? a = w.cell? a) ∧ Hid (Below w.heap.size w wr)) (fun i _ => 1 - (intOf i).toNat)
  case atStart => exact ⟨0, Nat.zero_le _, rfl, fun _ => rfl, Below.refl _ _⟩
  case round =>
    obtain ⟨k, hk, rfl, hq, HB⟩ := hrel
    obtain rfl | rfl : k = 0 ∨ k = 1 := by omega
    · have e1 : wr.cell? ⟨g, 0, none⟩ = some (.int .u8 48) := (hq.out _).trans H1.out
      go_wp2
      go_quiet (fail)
      go_wp2
      go_roundw
      case rel => exact ⟨1, by omega, by go_num, fun a => hq.out a, below_drewN HB.out _⟩
      case measure => simp [intOf]
    · go_wp2
      go_ret
      exact ⟨rfl, HB.out⟩

/-! ### zzReadDec (18) -/
set_option maxHeartbeats 1000000 in
theorem read_pos (g cap m : Nat) (c A : Nat → Int) (hm : 1 ≤ m) (hm' : m ≤ 19) (hc : ∀ k, k < m → 48 ≤ c k ∧ c k ≤ 57) (hA0 : A 0 = 0) (hA : ∀ k, k < m → A (k + 1) = A k * 10 + (c k - 48))
    (hb : ∀ k, k ≤ m → 0 ≤ A k ∧ A k ≤ 9223372036854775807) (hz : c 0 = 48 → m = 1) (w : World) (h1 : ∀ k, k < m → w.cell? ⟨g, k, none⟩ = some (.int .u8 (c k))) :
    Calls Tryd.prog 18 #[.slice (some ⟨g, 0, none⟩) m cap] w fun e w' => e = .returned (.tuple #[.int .i64 (A m), .bool true]) ∧ w' = w := by
  have c0 := hc 0 (by omega)
  have e0 := h1 0 (by omega)
  have hm0 : (0 : Int) < (m : Int) := by omega
  have HC := Lib.hid hc
  have HA := Lib.hid hA
  have HA0 := Lib.hid hA0
  have HB := Lib.hid hb
  have H1 := Lib.hid h1
  clear hc hA hA0 hb h1
  have hcase : ((c 0 == 48) = false) ∨ ((c 0 == 48) = true ∧ ((m : Int) != 1) = false) := by
    by_cases h : c 0 = 48
    · right
      have := hz h
      subst this
      exact ⟨by rw [h]; rfl, rfl⟩
    · left
      simpa using h
  have n45 : (c 0 == 45) = false := by simp; omega
  clear hz
  obtain ⟨c00, hc00⟩ : ∃ x, x = c 0 := ⟨_, rfl⟩
  rw [← hc00] at c0 e0 hcase n45
  obtain ⟨c0l, c0h⟩ := c0
  have HC0 := Lib.hid hc00
  clear hc00
  rcases hcase with hx | ⟨hx, hx2⟩
  all_goals
    go_enter Tryd.func18, Tryd.ntmps18
    go_wp2
    go_loop [2, 3, 4, 6] (fun _ _ i u => ∃ k : Nat, k ≤ m ∧ i = .int .i64 k ∧ u = .int .u64 (A k)) (fun _ _ i _ => m - (intOf i).toNat)
    case atStart => exact ⟨0, Nat.zero_le _, rfl, by rw [HA0.out]⟩
    case round =>
      obtain ⟨k, hk, rfl, rfl⟩ := hrel
      by_cases hlt : k < m
      · have e1 := H1.out k hlt
        have ck := HC.out k hlt
        have b1 := HB.out k hk
        have b2 := HB.out (k + 1) (by omega)
        have hs := HA.out k hlt
        obtain ⟨x, hx⟩ : ∃ x, x = c k := ⟨_, rfl⟩
        obtain ⟨a, ha⟩ : ∃ a, a = A k := ⟨_, rfl⟩
        rw [← hx] at ck e1
        rw [← ha] at b1 ⊢
        rw [hs, ← ha, ← hx] at b2
        obtain ⟨k1, k2⟩ := ck
        obtain ⟨k3, k4⟩ := b1
        obtain ⟨k5, k6⟩ := b2
        have k7 : a ≤ 922337203685477580 := by omega
        have hlt' : (k : Int) < (m : Int) := by omega
        have HS := Lib.hid (And.intro hs (And.intro hx ha))
        clear hs hx ha
        go_wp2
        go_round
        case rel =>
          refine ⟨_, _, _, _, ⟨k + 1, ?_, ?_, ?_⟩, rfl, rfl, rfl, rfl⟩
          · omega
          · go_num
          · rw [HS.out.1, HS.out.2.1, HS.out.2.2]
        case measure => simp [intOf]; omega
      · have hkm : k = m := by omega
        subst hkm
        have b1 := HB.out k hk
        obtain ⟨a, ha⟩ : ∃ a, a = A k := ⟨_, rfl⟩
        rw [← ha] at b1 ⊢
        obtain ⟨k3, k4⟩ := b1
        have HS := Lib.hid ha
        clear ha
        go_wp2
        go_ret2
        exact ⟨ret_pair HS.out, rfl⟩

theorem neg_wrap (a : Int) (h0 : 0 ≤ a) (h1 : a ≤ 9223372036854775808) : wrap64 (IntKind.u64.wrap (-a)) = -a := by
  simp [wrap64, IntKind.wrap, IntKind.signed, IntKind.bits]
  omega

set_option maxHeartbeats 1000000 in
theorem read_neg (g cap m : Nat) (c A : Nat → Int) (hm : 1 ≤ m) (hm' : m ≤ 19) (hc : ∀ k, k < m → 48 ≤ c k ∧ c k ≤ 57) (hA0 : A 0 = 0) (hA : ∀ k, k < m → A (k + 1) = A k * 10 + (c k - 48))
    (hb : ∀ k, k ≤ m → 0 ≤ A k ∧ A k ≤ 9223372036854775808) (hz : c 0 ≠ 48) (w : World) (h0 : w.cell? ⟨g, 0, none⟩ = some (.int .u8 45)) (h1 : ∀ k, k < m → w.cell? ⟨g, k + 1, none⟩ = some (.int .u8 (c k))) :
    Calls Tryd.prog 18 #[.slice (some ⟨g, 0, none⟩) (m + 1) cap] w fun e w' => e = .returned (.tuple #[.int .i64 (-(A m)), .bool true]) ∧ w' = w := by
  have e0 := h1 0 (by omega)
  have hm0 : (1 : Int) < (m : Int) + 1 := by omega
  have hm1 : (0 : Int) < (m : Int) + 1 := by omega
  have HC := Lib.hid hc
  have HA := Lib.hid hA
  have HA0 := Lib.hid hA0
  have HB := Lib.hid hb
  have H1 := Lib.hid h1
  clear hc hA hA0 hb h1
  have hx : (c 0 == 48) = false := by simpa using hz
  clear hz
  obtain ⟨c00, hc00⟩ : ∃ x, x = c 0 := ⟨_, rfl⟩
  rw [← hc00] at e0 hx
  have HC0 := Lib.hid hc00
  clear hc00
  rw [Nat.zero_add] at e0
  go_enter Tryd.func18, Tryd.ntmps18
  go_wp2
  go_loop [2, 3, 4, 6] (fun _ _ i u => ∃ k : Nat, k ≤ m ∧ i = .int .i64 ((k : Int) + 1) ∧ u = .int .u64 (A k)) (fun _ _ i _ => m + 1 - (intOf i).toNat)
  case atStart => exact ⟨0, Nat.zero_le _, rfl, by rw [HA0.out]⟩
  case round =>
    obtain ⟨k, hk, rfl, rfl⟩ := hrel
    by_cases hlt : k < m
    · have e1 := H1.out k hlt
      have ck := HC.out k hlt
      have b1 := HB.out k hk
      have b2 := HB.out (k + 1) (by omega)
      have hs := HA.out k hlt
      obtain ⟨x, hx⟩ : ∃ x, x = c k := ⟨_, rfl⟩
      obtain ⟨a, ha⟩ : ∃ a, a = A k := ⟨_, rfl⟩
      rw [← hx] at ck e1
      rw [← ha] at b1 ⊢
      rw [hs, ← ha, ← hx] at b2
      obtain ⟨k1, k2⟩ := ck
      obtain ⟨k3, k4⟩ := b1
      obtain ⟨k5, k6⟩ := b2
      have k7 : a ≤ 922337203685477580 := by omega
      have hlt' : (k : Int) + 1 < (m : Int) + 1 := by omega
      have HS := Lib.hid (And.intro hs (And.intro hx ha))
      clear hs hx ha
      go_wp2
      go_round
      case rel =>
        refine ⟨k + 1, ?_, ?_, ?_⟩
        · omega
        · go_num
        · rw [HS.out.1, HS.out.2.1, HS.out.2.2]
      case measure => simp [intOf]; omega
    · have hkm : k = m := by omega
      subst hkm
      have b1 := HB.out k hk
      obtain ⟨a, ha⟩ : ∃ a, a = A k := ⟨_, rfl⟩
      rw [← ha] at b1 ⊢
      obtain ⟨k3, k4⟩ := b1
      have HS := Lib.hid ha
      clear ha
      go_wp2
      go_ret2
      exact ⟨ret_pair (by rw [← HS.out]; exact neg_wrap _ k3 k4), rfl⟩

/-! ### Int.AppendJSON (14) -/
/-- What is owned and not empty is a slice over a block, and its cells are the bytes. -/
theorem open_own {w : World} {B n : Nat} {v : Value} {l : List UInt8} (h : w.ownsRow B 5 1 v n (Lib.byteCells l)) (hl : l.length = n) (hpos : 0 < n) :
    ∃ g cap, v = .slice (some ⟨g, 0, none⟩) n cap ∧ B ≤ g ∧ g < w.heap.size ∧ n ≤ cap ∧ ∀ k b, l[k]? = some b → w.cell? ⟨g, k, none⟩ = some (.int .u8 (b.toNat : Int)) := by
  rcases h.2 with ⟨-, h0⟩ | ⟨g, cap, cur, rfl, hB, hg, hc, hm, hs, ht⟩
  · omega
  · refine ⟨g, cap, rfl, hB, (h.lt g rfl).2, hc, fun k b hk => ?_⟩
    have hkl : k < l.length := (List.getElem?_eq_some_iff.1 hk).1
    have hj : (Lib.byteCells l)[k]? = some (.int .u8 (b.toNat : Int)) := by
      unfold Lib.byteCells
      rw [List.getElem?_map, hk]
      rfl
    rw [h.cellAt k (by omega)]
    exact hj

set_option maxHeartbeats 400000 in
theorem json_any (B n : Nat) (i : Int) (h0 : -9223372036854775808 ≤ i) (h1 : i ≤ 9223372036854775807) (sv : Value) (xs : List Value) (w : World) (hown : w.ownsRow B 5 1 sv n xs) (hBw : B ≤ w.heap.size) (hlim : n + 21 ≤ 140737488355328)
    (htab : Lib.TabBelow Tryd.prog B w tabName .u64 Lib.pow10Tab) :
    Calls Tryd.prog 14 #[.int .i64 i, sv] w fun e w' => ∃ v', e = .returned v' ∧ w'.ownsRow B 5 1 v' (n + (Lib.itoa i).length) (xs ++ Lib.byteCells (Lib.itoa i)) ∧ Below B w w' := by
  have HC := Lib.hid (appendInt10 B n i h0 h1 sv xs w hown hBw hlim htab)
  clear h0 h1 hown hBw hlim htab
  go_enter Tryd.func14, Tryd.ntmps14
  go_wp2_with fail
  refine HC.out.mono ?_
  rintro e w1 ⟨v1, rfl, hown1, hb1, -⟩
  have H1 := Lib.hid (And.intro hown1 hb1)
  clear hown1 hb1
  go_wp2
  go_ret
  exact ⟨v1, rfl, H1.out⟩

theorem digit_cell (u k : Nat) : ((UInt8.ofNat (48 + dig u k)).toNat : Int) = 48 + (dig u k : Int) := by
  rw [digit_toNat]
  omega

theorem json_pos (u : Nat) (hu : u ≤ 9223372036854775807) (w : World) (htab : Lib.TabIs Tryd.prog w tabName .u64 Lib.pow10Tab) :
    Calls Tryd.prog 14 #[.int .i64 (u : Int), .slice none 0 0] w fun e w' => ∃ g cap, e = .returned (.slice (some ⟨g, 0, none⟩) (Lib.nDigits u) cap) ∧ w.heap.size ≤ g ∧ g < w'.heap.size ∧ Lib.nDigits u ≤ cap ∧
      (∀ k, k < Lib.nDigits u → w'.cell? ⟨g, k, none⟩ = some (.int .u8 (48 + (dig u k : Int)))) ∧ Below w.heap.size w w' ∧ Lib.TabIs Tryd.prog w' tabName .u64 Lib.pow10Tab := by
  have hT := Lib.tabBelow_of_tabIs htab
  refine (json_any w.heap.size 0 u (by omega) (by omega) (.slice none 0 0) [] w (World.ownsRow_nil _ _ _ _) (Nat.le_refl _) (by omega) hT).mono ?_
  rintro e w' ⟨v', rfl, hown, hb⟩
  rw [Nat.zero_add, List.nil_append, Lib.itoa_nonneg] at hown
  obtain ⟨g, cap, rfl, hg, hg', hcap, hcell⟩ := open_own hown rfl (by rw [Lib.decDigits_length]; exact Lib.nDigits_pos u)
  rw [Lib.decDigits_length] at hcap ⊢
  exact ⟨g, cap, rfl, hg, hg', hcap, fun k hk => by rw [hcell k _ (decDigits_at u k hk), digit_cell], hb, hT w' hb⟩

theorem json_neg (u : Nat) (h1 : 1 ≤ u) (hu : u ≤ 9223372036854775808) (w : World) (htab : Lib.TabIs Tryd.prog w tabName .u64 Lib.pow10Tab) :
    Calls Tryd.prog 14 #[.int .i64 (-(u : Int)), .slice none 0 0] w fun e w' => ∃ g cap, e = .returned (.slice (some ⟨g, 0, none⟩) (Lib.nDigits u + 1) cap) ∧ w.heap.size ≤ g ∧ g < w'.heap.size ∧ Lib.nDigits u + 1 ≤ cap ∧
      w'.cell? ⟨g, 0, none⟩ = some (.int .u8 45) ∧ (∀ k, k < Lib.nDigits u → w'.cell? ⟨g, k + 1, none⟩ = some (.int .u8 (48 + (dig u k : Int)))) ∧ Below w.heap.size w w' ∧ Lib.TabIs Tryd.prog w' tabName .u64 Lib.pow10Tab := by
  have hT := Lib.tabBelow_of_tabIs htab
  refine (json_any w.heap.size 0 (-(u : Int)) (by omega) (by omega) (.slice none 0 0) [] w (World.ownsRow_nil _ _ _ _) (Nat.le_refl _) (by omega) hT).mono ?_
  rintro e w' ⟨v', rfl, hown, hb⟩
  rw [Nat.zero_add, List.nil_append, Lib.itoa_neg u h1] at hown
  obtain ⟨g, cap, rfl, hg, hg', hcap, hcell⟩ := open_own hown rfl (by simp)
  rw [List.length_cons, Lib.decDigits_length] at hcap ⊢
  exact ⟨g, cap, rfl, hg, hg', hcap, hcell 0 45 rfl, fun k hk => by rw [hcell (k + 1) _ (decDigits_at u k hk), digit_cell], hb, hT w' hb⟩

end Go.Proofs.Qxb6615196aDoor
