/-
  THE WALKS of the law FnIntAppendKeepsPrefixAndReadsBack (4): zzBytes (17), zzClone (7), AppendJSON onto a clone and onto nil, zzReadDec and zzEq by their contracts (Qxb6615196aDoorSmall.lean).
-/
import Derived.Test.Qxb6615196aDoorSmall
import Derived.Deep.OwnRows
import Derived.WideShapes
namespace Go.Proofs.Qxb6615196aDoor
open Go.RowKit

theorem infoByte : (Tryd.prog.info? 5).map (fun i => (i.zero, i.size, i.bytes)) = some (some (.int .u8 0), 1, 1) := by kernel_rfl

/-! ### zzBytes (17) -/
theorem bytes_few (a : Option Addr) (n c : Nat) (i : Int) (h : n ≤ 1048576) (w : World) :
    Calls Tryd.prog 17 #[.slice a n c, .int .i64 i] w fun e w' => e = .returned (.bool true) ∧ w' = w := by
  go_enter Tryd.func17, Tryd.ntmps17
  go_wp2
  go_ret
  exact ⟨rfl, rfl⟩
theorem bytes_many (a : Option Addr) (n c : Nat) (i : Int) (h : ¬ n ≤ 1048576) (w : World) :
    Calls Tryd.prog 17 #[.slice a n c, .int .i64 i] w fun e w' => e = .returned (.bool false) ∧ w' = w := by
  go_enter Tryd.func17, Tryd.ntmps17
  go_wp2
  go_ret
  exact ⟨rfl, rfl⟩

/-! ### zzClone (7) -/
theorem clone_nil (w : World) : Calls Tryd.prog 7 #[.slice none 0 0] w fun e w' => e = .returned (.slice none 0 0) ∧ w' = w := by
  have hnil := fun (w : World) => Lib.run_eql_slice_nil (P := Tryd.prog) w 22 5 none 0 0 0 0 Tryd.underlying22
  go_enter Tryd.func7, Tryd.ntmps7
  go_wp2
  go_ret
  exact ⟨rfl, rfl⟩

set_option maxHeartbeats 400000 in
theorem clone_row (g o n c : Nat) (f : Nat → Int) (hn : n ≤ 1048576) (w : World) (h1 : ∀ k, k < n → w.cell? ⟨g, o + k, none⟩ = some (.int .u8 (f k))) (hg : g < w.heap.size) :
    Calls Tryd.prog 7 #[.slice (some ⟨g, o, none⟩) n c] w fun e w' => e = .returned (.slice (some ⟨w.heap.size, 0, none⟩) n n) ∧ w'.rowIs w.heap.size 5 n (fun j => .int .u8 (f j)) ∧ Below w.heap.size w w' := by
  have hnil := fun (w : World) => Lib.run_eql_slice_nil (P := Tryd.prog) w 22 5 (some ⟨g, o, none⟩) n c 0 0 Tryd.underlying22
  have hmk := run_make_row' (P := Tryd.prog) 22 5 (.int .u8 0) 1 Tryd.underlying22 infoByte rfl .i64 .i64 n (by omega) (by omega) w
  have H1 := Lib.hid h1
  have HG := Lib.hid hg
  clear h1 hg
  go_enter Tryd.func7, Tryd.ntmps7
  go_wp2
  go_loopw [4] (fun i wr => ∃ k : Nat, k ≤ n ∧ i = .int .i64 k ∧ Hid (wr.rowIs w.heap.size 5 n (fun j => if j < k then .int .u8 (f j) else .int .u8 0)) ∧ Hid (Below w.heap.size w wr)) (fun i _ => n - (intOf i).toNat)
  case atStart => exact ⟨0, Nat.zero_le _, rfl, (World.rowIs_made w _ n 5).congr (fun j _ => by simp), (Below.refl _ _).alloc (Nat.le_refl _) _⟩
  case round =>
    obtain ⟨k, hk, rfl, hrow, hb⟩ := hrel
    by_cases hlt : k < n
    · have e1 : wr.cell? ⟨g, o + k, none⟩ = some (.int .u8 (f k)) := (hb.out.cell (p := ⟨g, o + k, none⟩) HG.out).trans (H1.out k hlt)
      obtain ⟨x, hx⟩ : ∃ x, x = f k := ⟨_, rfl⟩
      rw [← hx] at e1
      have e2 : wr.cell? ⟨w.heap.size, k, none⟩ = some (.int .u8 0) := by rw [hrow.out.cell hlt, if_neg (by omega)]
      have e3 : wr.frozen? ⟨w.heap.size, k, none⟩ = false := hrow.out.frozen k
      have hlt' : (k : Int) < (n : Int) := by omega
      have HX := Lib.hid hx
      clear hx
      go_wp2
      go_roundw
      case rel =>
        refine ⟨k + 1, by omega, by go_num, ?_, hb.out.setCell (Nat.le_refl _) _⟩
        refine (hrow.out.set k (.int .u8 x)).congr (fun j hj => ?_)
        show (if j = k then _ else (if j < k then _ else _)) = _
        by_cases e : j = k
        · subst e; rw [if_pos rfl, if_pos (by omega), HX.out]
        · rw [if_neg e]
          by_cases e' : j < k
          · rw [if_pos e', if_pos (by omega)]
          · rw [if_neg e', if_neg (by omega)]
      case measure => simp [intOf]; omega
    · go_wp2
      go_ret
      exact ⟨rfl, hrow.out.congr (fun j hj => by rw [if_pos (by omega)]), hb.out⟩

/-- An empty slice that is not nil, wherever it points. -/
theorem clone_empty (a : Addr) (c : Nat) (f : Nat → Int) (w : World) :
    Calls Tryd.prog 7 #[.slice (some a) 0 c] w fun e w' => e = .returned (.slice (some ⟨w.heap.size, 0, none⟩) 0 0) ∧ w'.rowIs w.heap.size 5 0 (fun j => .int .u8 (f j)) ∧ Below w.heap.size w w' := by
  have hnil := fun (w : World) => Lib.run_eql_slice_nil (P := Tryd.prog) w 22 5 (some a) 0 c 0 0 Tryd.underlying22
  have hmk : (Instr.makeSlice 22 (.int .i64 0) (.int .i64 0)).run Tryd.prog w = .ok (.slice (some ⟨w.heap.size, 0, none⟩) 0 0) (w.alloc (.cells (madeCells #[.int .u8 0] 0) 5)) :=
    run_make_row' (P := Tryd.prog) 22 5 (.int .u8 0) 1 Tryd.underlying22 infoByte rfl .i64 .i64 0 (by omega) (by omega) w
  go_enter Tryd.func7, Tryd.ntmps7
  go_wp2
  go_loopw [4] (fun i wr => i = .int .i64 0 ∧ Hid (wr.rowIs w.heap.size 5 0 (fun j => .int .u8 (f j))) ∧ Hid (Below w.heap.size w wr)) (fun _ _ => 0)
  case atStart => exact ⟨rfl, (World.rowIs_made w (.int .u8 0) 0 5).congr (fun j hj => by omega), (Below.refl _ _).alloc (Nat.le_refl _) _⟩
  case round =>
    obtain ⟨rfl, hrow, hb⟩ := hrel
    go_wp2
    go_ret
    exact ⟨rfl, hrow.out, hb.out⟩

/-! ### The numeral of n, place for place -/
/-- The byte at place k of n's numeral, as a number. -/
def itB (n : Int) (k : Nat) : Int := (((Lib.itoa n)[k]?.getD 0).toNat : Int)

theorem itoa_pos (n : Int) : 0 < (Lib.itoa n).length := by
  unfold Lib.itoa
  split
  · simp
  · rw [Lib.decDigits_length]; exact Lib.nDigits_pos _

theorem read_any (n : Int) (h0 : -9223372036854775808 ≤ n) (h1 : n ≤ 9223372036854775807) (g cap : Nat) (w : World) (hc : ∀ k, k < (Lib.itoa n).length → w.cell? ⟨g, k, none⟩ = some (.int .u8 (itB n k))) :
    Calls Tryd.prog 18 #[.slice (some ⟨g, 0, none⟩) (Lib.itoa n).length cap] w fun e w' => e = .returned (.tuple #[.int .i64 n, .bool true]) ∧ w' = w := by
  by_cases hneg : n < 0
  · obtain ⟨u, rfl⟩ : ∃ u : Nat, n = -(u : Int) := ⟨n.natAbs, by omega⟩
    have hu : 1 ≤ u := by omega
    have el : (Lib.itoa (-(u : Int))).length = Lib.nDigits u + 1 := by rw [Lib.itoa_neg u hu, List.length_cons, Lib.decDigits_length]
    rw [el] at hc ⊢
    have e0 : itB (-(u : Int)) 0 = 45 := by unfold itB; rw [Lib.itoa_neg u hu]; rfl
    have ek : ∀ k, k < Lib.nDigits u → itB (-(u : Int)) (k + 1) = 48 + (dig u k : Int) := fun k hk => by
      unfold itB
      rw [Lib.itoa_neg u hu, List.getElem?_cons_succ, decDigits_at u k hk]
      exact digit_cell u k
    have hfin := read_neg g cap (Lib.nDigits u) (fun k => 48 + (dig u k : Int)) (fun k => (acc u k : Int)) (Lib.nDigits_pos u) (nDigits_le19 u (by omega)) (fun k _ => by have := dig_le u k; omega)
      (by show ((acc u 0 : Nat) : Int) = 0; rw [acc_zero]; rfl) (fun k hk => by show ((acc u (k + 1) : Nat) : Int) = _; rw [acc_succ u k hk]; omega)
      (fun k _ => by have := acc_le u k; omega) (by have := dig_first u hu; omega) w (by rw [hc 0 (by omega), e0]) (fun k hk => by rw [hc (k + 1) (by omega), ek k hk])
    have e1 : ((acc u (Lib.nDigits u) : Nat) : Int) = u := by rw [acc_end]
    rw [e1] at hfin
    exact hfin
  · obtain ⟨u, rfl⟩ : ∃ u : Nat, n = (u : Int) := ⟨n.toNat, by omega⟩
    have el : (Lib.itoa (u : Int)).length = Lib.nDigits u := by rw [Lib.itoa_nonneg u, Lib.decDigits_length]
    rw [el] at hc ⊢
    have ek : ∀ k, k < Lib.nDigits u → itB (u : Int) k = 48 + (dig u k : Int) := fun k hk => by
      unfold itB
      rw [Lib.itoa_nonneg u, decDigits_at u k hk]
      exact digit_cell u k
    have hfin := read_pos g cap (Lib.nDigits u) (fun k => 48 + (dig u k : Int)) (fun k => (acc u k : Int)) (Lib.nDigits_pos u) (nDigits_le19 u (by omega)) (fun k _ => by have := dig_le u k; omega)
      (by show ((acc u 0 : Nat) : Int) = 0; rw [acc_zero]; rfl) (fun k hk => by show ((acc u (k + 1) : Nat) : Int) = _; rw [acc_succ u k hk]; omega)
      (fun k _ => by have := acc_le u k; omega) (fun h => by
        rcases Nat.eq_zero_or_pos u with rfl | hu
        · exact Lib.nDigits_small (by omega)
        · have := dig_first u hu; omega) w (fun k hk => by rw [hc k hk, ek k hk])
    have e1 : ((acc u (Lib.nDigits u) : Nat) : Int) = u := by rw [acc_end]
    rw [e1] at hfin
    exact hfin

/-! ### AppendJSON onto a row that the call owns -/
theorem json_nil (n : Int) (h0 : -9223372036854775808 ≤ n) (h1 : n ≤ 9223372036854775807) (w : World) (htab : Lib.TabIs Tryd.prog w tabName .u64 Lib.pow10Tab) :
    Calls Tryd.prog 14 #[.int .i64 n, .slice none 0 0] w fun e w' => ∃ g cap, e = .returned (.slice (some ⟨g, 0, none⟩) (Lib.itoa n).length cap) ∧ w.heap.size ≤ g ∧ g < w'.heap.size ∧ (Lib.itoa n).length ≤ cap ∧
      (∀ k, k < (Lib.itoa n).length → w'.cell? ⟨g, k, none⟩ = some (.int .u8 (itB n k))) ∧ Below w.heap.size w w' ∧ Lib.TabIs Tryd.prog w' tabName .u64 Lib.pow10Tab := by
  have hT := Lib.tabBelow_of_tabIs htab
  refine (json_any w.heap.size 0 n h0 h1 (.slice none 0 0) [] w (World.ownsRow_nil _ _ _ _) (Nat.le_refl _) (by omega) hT).mono ?_
  rintro e w' ⟨v', rfl, hown, hb⟩
  rw [Nat.zero_add, List.nil_append] at hown
  obtain ⟨g, cap, rfl, hg, hg', hcap, hcell⟩ := open_own hown rfl (itoa_pos n)
  refine ⟨g, cap, rfl, hg, hg', hcap, fun k hk => ?_, hb, hT w' hb⟩
  rw [hcell k _ (List.getElem?_eq_getElem hk)]
  unfold itB
  rw [List.getElem?_eq_getElem hk]
  rfl

/-- A row of n cells that is known whole, owned with nothing to spare. -/
theorem owns_of_rowIs {w : World} {b n : Nat} {f : Nat → Value} (h : w.rowIs b 5 n f) (hn : n ≤ maxLen) : w.ownsRow b 5 1 (.slice (some ⟨b, 0, none⟩) n n) n ((List.range n).map f) := by
  obtain ⟨c, hb, hs, hc⟩ := h
  refine ⟨by simp, .inr ⟨b, n, c, rfl, Nat.le_refl _, hb, Nat.le_refl _, hn, by omega, ?_⟩⟩
  apply List.ext_getElem?
  intro i
  rw [Nat.mul_one]
  by_cases hi : i < n
  · rw [List.getElem?_take, if_pos hi, Array.getElem?_toList, hc i hi, List.getElem?_map, List.getElem?_range hi]
    rfl
  · rw [List.getElem?_eq_none (by simp; omega), List.getElem?_eq_none (by simp; omega)]

/-- AppendJSON onto a row of m cells of its own: the cells, then the numeral. -/
theorem json_row (n : Int) (h0 : -9223372036854775808 ≤ n) (h1 : n ≤ 9223372036854775807) (b m : Nat) (f : Nat → Int) (hm : m ≤ 1048576) (w : World) (hrow : w.rowIs b 5 m (fun j => .int .u8 (f j)))
    (htab : Lib.TabBelow Tryd.prog b w tabName .u64 Lib.pow10Tab) :
    Calls Tryd.prog 14 #[.int .i64 n, .slice (some ⟨b, 0, none⟩) m m] w fun e w' => ∃ g cap, e = .returned (.slice (some ⟨g, 0, none⟩) (m + (Lib.itoa n).length) cap) ∧ b ≤ g ∧ g < w'.heap.size ∧ m + (Lib.itoa n).length ≤ cap ∧
      (∀ k, k < m → w'.cell? ⟨g, k, none⟩ = some (.int .u8 (f k))) ∧ (∀ k, k < (Lib.itoa n).length → w'.cell? ⟨g, m + k, none⟩ = some (.int .u8 (itB n k))) ∧ Below b w w' := by
  have hlt := hrow.lt
  refine (json_any b m n h0 h1 _ _ w (owns_of_rowIs hrow (by unfold maxLen; omega)) (by omega) (by omega) htab).mono ?_
  rintro e w' ⟨v', rfl, hown, hb⟩
  have hp := itoa_pos n
  rcases hown.2 with ⟨-, hz⟩ | ⟨g, cap, cur, rfl, hB, hg, hc, hmx, hs, ht⟩
  · omega
  have hcell := fun j (hj : j < (m + (Lib.itoa n).length) * 1) => hown.cellAt j hj
  refine ⟨g, cap, rfl, hB, (hown.lt g rfl).2, hc, fun k hk => ?_, fun k hk => ?_, hb⟩
  · rw [hcell k (by omega), List.getElem?_append_left (by simp; omega), List.getElem?_map, List.getElem?_range hk]
    rfl
  · rw [hcell (m + k) (by omega), List.getElem?_append_right (by simp)]
    simp only [List.length_map, List.length_range, Nat.add_sub_cancel_left]
    unfold Lib.byteCells itB
    rw [List.getElem?_map, List.getElem?_eq_getElem hk]
    rfl

/-! ### The law (4) -/
theorem app_many (a : Option Addr) (m c : Nat) (n : Int) (h : ¬ m ≤ 1048576) (w : World) :
    Calls Tryd.prog 4 #[.slice a m c, .int .i64 n] w fun e w' => e = .returned (.bool true) ∧ Below w.heap.size w w' := by
  go_enter Tryd.func4, Tryd.ntmps4
  go_wp2_with (go_at_call 17; refine (bytes_many a m c n h _).mono ?_; rintro e w' ⟨rfl, rfl⟩)
  go_ret
  exact ⟨rfl, Below.refl _ _⟩

set_option maxHeartbeats 1000000 in
theorem app_nil (n : Int) (h0 : -9223372036854775808 ≤ n) (h1 : n ≤ 9223372036854775807) (w : World) (htab : Lib.TabIs Tryd.prog w tabName .u64 Lib.pow10Tab) :
    Calls Tryd.prog 4 #[.slice none 0 0, .int .i64 n] w fun e w' => e = .returned (.bool true) ∧ Below w.heap.size w w' := by
  have J := Lib.hid (fun w => json_nil n h0 h1 w)
  have RD := Lib.hid (read_any n h0 h1)
  have l1 := itoa_pos n
  have l2 := Lib.itoa_length_le n h0 h1
  generalize (Lib.itoa n).length = L at *
  have HT := Lib.hid htab
  clear htab h0 h1
  go_enter Tryd.func4, Tryd.ntmps4
  go_wp2_with (first
    | (go_at_call 17; refine (bytes_few none 0 0 n (by omega) _).mono ?_; rintro e w' ⟨rfl, rfl⟩)
    | (go_at_call 7; refine (clone_nil _).mono ?_; rintro e w' ⟨rfl, rfl⟩))
  refine (J.out _ HT.out).mono ?_
  rintro e w1 ⟨g1, c1, rfl, hg1, hg1', hc1, hcell1, hb1, ht1⟩
  have HT1 := Lib.hid ht1
  have HB1 := Lib.hid hb1
  have HC1 := Lib.hid hcell1
  clear hb1 ht1 hcell1
  go_wp2_with fail
  refine (J.out _ HT1.out).mono ?_
  rintro e w2 ⟨g2, c2, rfl, hg2, hg2', hc2, hcell2, hb2, ht2⟩
  have HB2 := Lib.hid (HB1.out.trans (hb2.mono HB1.out.size))
  have HC1' := Lib.hid (fun k (hk : k < L) => (hb2.cell (p := ⟨g1, k, none⟩) hg1').trans (HC1.out k hk))
  have HC2 := Lib.hid hcell2
  clear hb2 ht2 hcell2
  go_wp2_with fail
  refine (RD.out g2 c2 _ HC2.out).mono ?_
  rintro e w3 ⟨rfl, rfl⟩
  go_wp2_with fail
  refine (eq_empty _ _ _ _ _).mono ?_
  rintro e w4 ⟨rfl, hb4⟩
  have HB4 := Lib.hid hb4
  clear hb4
  go_wp2_with fail
  refine (eq_rows g1 0 _ g2 0 c2 L (itB n) (by omega) _ (fun k hk => by rw [Nat.zero_add]; exact (HB4.out.cell (p := ⟨g1, k, none⟩) (by show g1 < _; omega)).trans (HC1'.out k hk))
    (fun k hk => by rw [Nat.zero_add]; exact (HB4.out.cell (p := ⟨g2, k, none⟩) hg2').trans (HC2.out k hk))).mono ?_
  rintro e w5 ⟨rfl, hb5⟩
  have HB5 := Lib.hid hb5
  clear hb5
  go_wp2
  go_ret
  have k4 := HB4.out.size
  exact ⟨rfl, HB2.out.trans ((HB4.out.mono HB2.out.size).trans (HB5.out.mono (by have := HB2.out.size; omega)))⟩

set_option maxHeartbeats 1000000 in
theorem app_row (a : Addr) (m c : Nat) (f : Nat → Int) (hm : m ≤ 1048576) (n : Int) (h0 : -9223372036854775808 ≤ n) (h1 : n ≤ 9223372036854775807) (w : World)
    (hcl : ∀ w1, Below w.heap.size w w1 → Calls Tryd.prog 7 #[.slice (some a) m c] w1 fun e w' => e = .returned (.slice (some ⟨w1.heap.size, 0, none⟩) m m) ∧ w'.rowIs w1.heap.size 5 m (fun j => .int .u8 (f j)) ∧ Below w1.heap.size w1 w')
    (htab : Lib.TabIs Tryd.prog w tabName .u64 Lib.pow10Tab) :
    Calls Tryd.prog 4 #[.slice (some a) m c, .int .i64 n] w fun e w' => e = .returned (.bool true) ∧ Below w.heap.size w w' := by
  have J := Lib.hid (fun w => json_nil n h0 h1 w)
  have JR := Lib.hid (fun b w => json_row n h0 h1 b m f hm w)
  have RD := Lib.hid (read_any n h0 h1)
  have CL := Lib.hid hcl
  have l1 := itoa_pos n
  have l2 := Lib.itoa_length_le n h0 h1
  generalize (Lib.itoa n).length = L at *
  have HT := Lib.hid htab
  clear htab h0 h1 hcl
  go_enter Tryd.func4, Tryd.ntmps4
  go_wp2_with (go_at_call 17; refine (bytes_few (some a) m c n hm _).mono ?_; rintro e w' ⟨rfl, rfl⟩)
  refine (CL.out _ (Below.refl _ _)).mono ?_
  rintro e w1 ⟨rfl, hr1, hb1⟩
  have R1 := Lib.hid hr1
  have HB1 := Lib.hid hb1
  clear hr1 hb1
  go_wp2_with fail
  refine (CL.out w1 HB1.out).mono ?_
  rintro e w2 ⟨rfl, hr2, hb2⟩
  have R2 := Lib.hid hr2
  have HB2 := Lib.hid hb2
  clear hr2 hb2
  go_wp2_with fail
  refine (JR.out w1.heap.size w2 R2.out ((Lib.tabBelow_of_tabIs ((Lib.tabBelow_of_tabIs HT.out) w1 HB1.out)).on HB2.out)).mono ?_
  rintro e w3 ⟨g3, c3, rfl, hg3, hg3', hc3, hcell3, hcell3', hb3⟩
  have HB3 := Lib.hid hb3
  have HC3 := Lib.hid (And.intro hcell3 hcell3')
  clear hb3 hcell3 hcell3'
  have T1 := Lib.hid (Lib.tabBelow_of_tabIs ((Lib.tabBelow_of_tabIs HT.out) w1 HB1.out))
  go_wp2_with fail
  refine (J.out _ (T1.out w3 (HB2.out.trans HB3.out))).mono ?_
  rintro e w4 ⟨g4, c4, rfl, hg4, hg4', hc4, hcell4, hb4, ht4⟩
  have z1 := HB1.out.size
  have z2 := HB2.out.size
  have z3 := HB3.out.size
  have z4 := hb4.size
  have z0 := R1.out.lt
  have ca : ∀ k, k < m → w4.cell? ⟨w'.heap.size, k, none⟩ = some (.int .u8 (f k)) := fun k hk => by
    rw [hb4.cell (p := ⟨w'.heap.size, k, none⟩) (by show w'.heap.size < _; omega), HB3.out.cell (p := ⟨w'.heap.size, k, none⟩) (by show w'.heap.size < _; omega), HB2.out.cell (p := ⟨w'.heap.size, k, none⟩) (by show w'.heap.size < _; omega)]
    exact R1.out.cell hk
  have cb : ∀ k, k < m → w4.cell? ⟨g3, k, none⟩ = some (.int .u8 (f k)) := fun k hk => (hb4.cell (p := ⟨g3, k, none⟩) hg3').trans (HC3.out.1 k hk)
  have cc : ∀ k, k < L → w4.cell? ⟨g3, m + k, none⟩ = some (.int .u8 (itB n k)) := fun k hk => (hb4.cell (p := ⟨g3, m + k, none⟩) hg3').trans (HC3.out.2 k hk)
  have HC4 := Lib.hid hcell4
  have CA := Lib.hid (And.intro ca (And.intro cb cc))
  have hbw : Below w'.heap.size w' w4 := HB1.out.trans ((HB2.out.mono (by omega)).trans ((HB3.out.mono (by omega)).trans (hb4.mono (by omega))))
  have HBW := Lib.hid hbw
  clear hcell4 hb4 ht4 ca cb cc hbw
  go_wp2_with fail
  refine (RD.out g4 c4 _ HC4.out).mono ?_
  rintro e w5 ⟨rfl, rfl⟩
  go_wp2_with fail
  refine (eq_rows g3 0 _ w'.heap.size 0 m m f (by omega) _ (fun k hk => by rw [Nat.zero_add]; exact CA.out.2.1 k hk) (fun k hk => by rw [Nat.zero_add]; exact CA.out.1 k hk)).mono ?_
  rintro e w6 ⟨rfl, hb6⟩
  have HB6 := Lib.hid hb6
  clear hb6
  go_wp2_with fail
  refine (eq_rows g3 m _ g4 0 c4 L (itB n) (by omega) _ (fun k hk => (HB6.out.cell (p := ⟨g3, m + k, none⟩) (by show g3 < _; omega)).trans (CA.out.2.2 k hk))
    (fun k hk => by rw [Nat.zero_add]; exact (HB6.out.cell (p := ⟨g4, k, none⟩) hg4').trans (HC4.out k hk))).mono ?_
  rintro e w7 ⟨rfl, hb7⟩
  have HB7 := Lib.hid hb7
  clear hb7
  go_wp2
  go_ret
  have k6 := HB6.out.size
  exact ⟨rfl, HBW.out.trans ((HB6.out.mono (by omega)).trans (HB7.out.mono (by omega)))⟩

/-- What the walk is told of a slice of bytes that came in: it is nil; or it leads to a row of 'cap' cells, the numbers 'zs' (the first 'len' are its elements). -/
def IsRow (w : World) (a : Option Addr) (len cap : Nat) (zs : List Int) : Prop :=
  (a = none ∧ len = 0 ∧ cap = 0 ∧ zs = []) ∨
  ∃ x, a = some x ∧ len ≤ cap ∧ cap ≤ maxLen ∧ zs.length = cap ∧ ∀ i, i < zs.length → w.cell? (x.add i) = some (.int .u8 (zs.getD i 0))

theorem app_walk (a : Option Addr) (len cap : Nat) (zs : List Int) (n : Int) (h0 : -9223372036854775808 ≤ n) (h1 : n ≤ 9223372036854775807) (w : World) (hz : IsRow w a len cap zs)
    (htab : Lib.TabIs Tryd.prog w tabName .u64 Lib.pow10Tab) :
    Calls Tryd.prog 4 #[.slice a len cap, .int .i64 n] w fun e w' => e = .returned (.bool true) ∧ Below w.heap.size w w' := by
  by_cases hm : len ≤ 1048576
  · rcases hz with ⟨rfl, rfl, rfl, rfl⟩ | ⟨x, rfl, hl, _, hzl, hcell⟩
    · exact app_nil n h0 h1 w htab
    · by_cases hc0 : cap = 0
      · have hl0 : len = 0 := by omega
        subst hl0
        exact app_row x 0 cap (fun k => zs.getD k 0) hm n h0 h1 w (fun w1 _ => clone_empty x cap _ w1) htab
      · obtain ⟨b, off, spot⟩ := x
        have e0 := hcell 0 (by omega)
        have hspot : spot = none := by simpa [Addr.add] using World.cell?_spot e0
        subst hspot
        have hb : b < w.heap.size := by simpa [Addr.add] using World.block_lt_of_cell? w _ e0
        refine app_row ⟨b, off, none⟩ len cap (fun k => zs.getD k 0) hm n h0 h1 w (fun w1 hw1 => ?_) htab
        refine clone_row b off len cap (fun k => zs.getD k 0) hm w1 (fun k hk => ?_) (by have := hw1.size; omega)
        rw [hw1.cell (p := ⟨b, off + k, none⟩) hb]
        have := hcell k (by omega)
        rwa [WideShapes.add_plain] at this
  · exact app_many a len cap n hm w
end Go.Proofs.Qxb6615196aDoor
