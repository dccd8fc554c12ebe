/-
  THE WALKS of the law FnCopyWordSaveOverwriteRestore (3): the roads that answer true at once; the main road: save, overwrite, restore, with its two loops and two comparisons.
-/
import Derived.Test.Qxb6616010aWord
namespace Go.Proofs.Qxb6616010a
open Go.RowKit

/-! ### The law FnCopyWordSaveOverwriteRestore (3): the roads that answer at once -/
theorem save_many (a b : Option Addr) (n c m d : Nat) (to from_ : Int) (h : ¬ (n ≤ 1048576 ∧ m ≤ 1048576 ∧ n + m ≤ 1048576)) (w : World) :
    Calls Try.prog 3 #[.slice a n c, .int .i64 to, .slice b m d, .int .i64 from_] w fun e w' => e = .returned (.bool true) ∧ Below w.heap.size w w' := by
  have H : Hid (∀ w, Calls Try.prog 7 #[.slice a n c, .int .i64 to, .slice b m d, .int .i64 from_] w fun e w' => e = .returned (.bool false) ∧ w' = w) := fun w => by
    by_cases h1 : n ≤ 1048576
    · by_cases h2 : m ≤ 1048576
      · exact bytes7_sum a b n c m d to from_ h1 h2 (fun h3 => h ⟨h1, h2, h3⟩) w
      · exact bytes7_second a b n c m d to from_ h1 h2 w
    · exact bytes7_first a b n c m d to from_ h1 w
  clear h
  go_enter Try.func3, Try.ntmps3
  go_wp2_with (go_at_call 7; refine (H.out _).mono ?_; rintro e w' ⟨rfl, rfl⟩)
  go_ret
  exact ⟨rfl, Below.refl _ _⟩
theorem save_long (a b : Option Addr) (n c m d : Nat) (to from_ : Int) (h1 : n ≤ 1048576) (h2 : m ≤ 1048576) (h3 : n + m ≤ 1048576) (h : ¬ n ≤ 65536 ∨ ¬ m ≤ 65536) (w : World) :
    Calls Try.prog 3 #[.slice a n c, .int .i64 to, .slice b m d, .int .i64 from_] w fun e w' => e = .returned (.bool true) ∧ Below w.heap.size w w' := by
  by_cases hn : n ≤ 65536
  · have t1 : ¬ (65536 : Int) < (n : Int) := by omega
    have t2 : (65536 : Int) < (m : Int) := by omega
    clear h
    go_enter Try.func3, Try.ntmps3
    go_wp2_with (go_at_call 7; refine (bytes7_few a b n c m d to from_ h1 h2 h3 _).mono ?_; rintro e w' ⟨rfl, rfl⟩)
    go_ret
    exact ⟨rfl, Below.refl _ _⟩
  · have t1 : (65536 : Int) < (n : Int) := by omega
    clear h
    go_enter Try.func3, Try.ntmps3
    go_wp2_with (go_at_call 7; refine (bytes7_few a b n c m d to from_ h1 h2 h3 _).mono ?_; rintro e w' ⟨rfl, rfl⟩)
    go_ret
    exact ⟨rfl, Below.refl _ _⟩
theorem save_off (a b : Option Addr) (n c m d : Nat) (to from_ : Int) (hn : n ≤ 65536) (hm : m ≤ 65536) (h : to < 0 ∨ (n : Int) - 8 < to ∨ from_ < 0 ∨ (m : Int) - 8 < from_) (w : World) :
    Calls Try.prog 3 #[.slice a n c, .int .i64 to, .slice b m d, .int .i64 from_] w fun e w' => e = .returned (.bool true) ∧ Below w.heap.size w w' := by
  have h1 : n ≤ 1048576 := by omega
  have h2 : m ≤ 1048576 := by omega
  have h3 : n + m ≤ 1048576 := by omega
  have t1 : ¬ (65536 : Int) < (n : Int) := by omega
  have t2 : ¬ (65536 : Int) < (m : Int) := by omega
  have HF := Lib.hid (fun w => bytes7_few a b n c m d to from_ h1 h2 h3 w)
  clear h1 h2 h3
  by_cases a1 : to < 0
  · clear h
    go_enter Try.func3, Try.ntmps3
    go_wp2_with (go_at_call 7; refine (HF.out _).mono ?_; rintro e w' ⟨rfl, rfl⟩)
    go_ret
    exact ⟨rfl, Below.refl _ _⟩
  by_cases a2 : (n : Int) - 8 < to
  · clear h
    go_enter Try.func3, Try.ntmps3
    go_wp2_with (go_at_call 7; refine (HF.out _).mono ?_; rintro e w' ⟨rfl, rfl⟩)
    go_ret
    exact ⟨rfl, Below.refl _ _⟩
  by_cases a3 : from_ < 0
  · clear h
    go_enter Try.func3, Try.ntmps3
    go_wp2_with (go_at_call 7; refine (HF.out _).mono ?_; rintro e w' ⟨rfl, rfl⟩)
    go_ret
    exact ⟨rfl, Below.refl _ _⟩
  have a4 : (m : Int) - 8 < from_ := by omega
  clear h
  go_enter Try.func3, Try.ntmps3
  go_wp2_with (go_at_call 7; refine (HF.out _).mono ?_; rintro e w' ⟨rfl, rfl⟩)
  go_ret
  exact ⟨rfl, Below.refl _ _⟩

/-- Behind 'grownBy' all that lies below another base is as it was. -/
theorem below_of_grown {w0 w w' : World} {B g : Nat} (hb : Below B w0 w) (hg : w.grownBy w' (some g)) (hB : B ≤ w.heap.size) (hBg : B ≤ g) : Below B w0 w' :=
  hb.trans ⟨hg.os, hg.tape, hg.output, hg.size, fun k hk => hg.block k (by omega) (by simp; omega)⟩

set_option maxHeartbeats 2000000 in
theorem save_main (g o n c to g' o' m c' from_ : Nat) (f h : Nat → Int) (hn : n ≤ 65536) (hm : m ≤ 65536) (hto : to + 8 ≤ n) (hfrom : from_ + 8 ≤ m) (hf : ∀ k, k < n → 0 ≤ f k ∧ f k < 256) (hh : ∀ k, k < m → 0 ≤ h k ∧ h k < 256) (w : World)
    (hc : ∀ k, k < n → w.cell? ⟨g, o + k, none⟩ = some (.int .u8 (f k))) (hg : g < w.heap.size) (hc' : ∀ k, k < m → w.cell? ⟨g', o' + k, none⟩ = some (.int .u8 (h k))) (hg' : g' < w.heap.size) :
    Calls Try.prog 3 #[.slice (some ⟨g, o, none⟩) n c, .int .i64 to, .slice (some ⟨g', o', none⟩) m c', .int .i64 from_] w fun e w' => e = .returned (.bool true) ∧ Below w.heap.size w w' := by
  have CL1 := Lib.hid (fun w => clone_row g o n c f hn (by omega) w)
  have CL2 := Lib.hid (fun w => clone_row g' o' m c' h hm (by omega) w)
  have HC := Lib.hid hc
  have HG := Lib.hid hg
  have HC' := Lib.hid hc'
  have HG' := Lib.hid hg'
  have HF := Lib.hid hf
  have HH := Lib.hid hh
  have BY := Lib.hid (fun w => bytes7_few (some ⟨g, o, none⟩) (some ⟨g', o', none⟩) n c m c' to from_ (by omega) (by omega) (by omega) w)
  have hmk : ∀ w : World, (Instr.makeSlice 22 (.int .i64 8) (.int .i64 8)).run Try.prog w = .ok (.slice (some ⟨w.heap.size, 0, none⟩) 8 8) (w.alloc (.cells (madeCells #[.int .u8 0] 8) 5)) := fun w => run_make_row' (P := Try.prog) 22 5 (.int .u8 0) 1 Try.underlying22 infoByte rfl .i64 .i64 8 (by omega) (by omega) w
  clear hc hg hf hc' hg' hh
  have t1 : ¬ (65536 : Int) < (n : Int) := by omega
  have t2 : ¬ (65536 : Int) < (m : Int) := by omega
  have a2 : ¬ (n : Int) - 8 < (to : Int) := by omega
  have a4 : ¬ (m : Int) - 8 < (from_ : Int) := by omega
  go_enter Try.func3, Try.ntmps3
  go_wp2_with (go_at_call 7; refine (BY.out _).mono ?_; rintro e w' ⟨rfl, rfl⟩)
  refine (CL1.out _ HC.out HG.out).mono ?_
  rintro e w1 ⟨rfl, hr1, hb1⟩
  have R1 := Lib.hid hr1
  have HB1 := Lib.hid hb1
  clear hr1 hb1
  go_wp2_with fail
  refine (CL2.out w1 (fun k hk => (HB1.out.cell (p := ⟨g', o' + k, none⟩) HG'.out).trans (HC'.out k hk)) (by have := HB1.out.size; have := HG'.out; omega)).mono ?_
  rintro e w2 ⟨rfl, hr2, hb2⟩
  have R2 := Lib.hid hr2
  have HB2 := Lib.hid hb2
  clear hr2 hb2
  go_wp2_with fail
  have z0 := HG.out
  have z0' := HG'.out
  have z1 := R1.out.lt
  have z2 := R2.out.lt
  have hd2 : w2.rowIs w'.heap.size 5 n (fun j => .int .u8 (f j)) := R1.out.of_block (HB2.out.block _ (by omega))
  have D2 := Lib.hid hd2
  clear hd2
  refine (word9 w2.heap.size 8 w'.heap.size n 0 to (fun _ => 0) f HF.out (by omega) hto _ (World.rowIs_made w2 (.int .u8 0) 8 5) (D2.out.alloc _)).mono ?_
  rintro e w3 ⟨rfl, hr3, hg3⟩
  have z3 : w2.heap.size + 1 ≤ w3.heap.size := by have := hg3.size; simpa using this
  have blk3 : ∀ k, k < w2.heap.size → w3.heap[k]? = w2.heap[k]? := fun k hk => by
    rw [hg3.block k (by simp; omega) (by simp; omega)]
    exact Below.heap_alloc _ _ _ hk
  have bel3 : Below w'.heap.size w' w3 := below_of_grown ((HB1.out.trans (HB2.out.mono (by omega))).alloc (by omega) _) hg3 (by simp; omega) (by omega)
  have cf3 : ∀ k, k < n → w3.cell? ⟨g, o + k, none⟩ = some (.int .u8 (f k)) := fun k hk => (bel3.cell (p := ⟨g, o + k, none⟩) z0).trans (HC.out k hk)
  have ch3 : ∀ k, k < m → w3.cell? ⟨g', o' + k, none⟩ = some (.int .u8 (h k)) := fun k hk => (bel3.cell (p := ⟨g', o' + k, none⟩) z0').trans (HC'.out k hk)
  have rD3 : w3.rowIs w'.heap.size 5 n (fun j => .int .u8 (f j)) := D2.out.of_block (blk3 _ (by omega))
  have rS3 : w3.rowIs w1.heap.size 5 m (fun j => .int .u8 (h j)) := R2.out.of_block (blk3 _ (by omega))
  have rV3 : w3.rowIs w2.heap.size 5 8 (fun j => .int .u8 (f (to + j))) := hr3.congr (fun j hj => by
    congr 1
    unfold put
    rw [if_pos (by omega), Nat.sub_zero])
  have K3 := Lib.hid (And.intro bel3 (And.intro cf3 (And.intro ch3 (And.intro rD3 (And.intro rS3 rV3)))))
  clear hr3 hg3 blk3 bel3 cf3 ch3 rD3 rS3 rV3
  go_wp2_with fail
  go_loopw [12] (fun i wr => ∃ k : Nat, k ≤ 8 ∧ i = .int .i64 k ∧ Hid (wr.heap = w3.heap) ∧ Hid (Below w3.heap.size w3 wr)) (fun i _ => 8 - (intOf i).toNat)
  case atStart => exact ⟨0, Nat.zero_le _, rfl, rfl, Below.refl _ _⟩
  case round =>
    obtain ⟨k, hk, rfl, hhp, hbr⟩ := hrel
    have cellr : ∀ a : Addr, wr.cell? a = w3.cell? a := fun a => World.cell?_of_block (by rw [hhp.out])
    have CR := Lib.hid cellr
    clear cellr
    by_cases hlt : k < 8
    · have e1 := (CR.out ⟨w2.heap.size, k, none⟩).trans (K3.out.2.2.2.2.2.cell hlt)
      have e2 := (CR.out ⟨g, o + (to + k), none⟩).trans (K3.out.2.1 (to + k) (by omega))
      have hlt' : (k : Int) < 8 := by omega
      have hlt2 : (to : Int) + (k : Int) < (n : Int) := by omega
      generalize f (to + k) = x at e1 e2
      go_wp2
      go_quiet (fail)
      go_wp2
      go_roundw
      case rel => exact ⟨k + 1, by omega, by go_num, hhp.out, below_drewN hbr.out _⟩
      case measure => simp [intOf]; omega
    · have blkr : ∀ k : Nat, wr.heap[k]? = w3.heap[k]? := fun k => by rw [hhp.out]
      have szr : wr.heap.size = w3.heap.size := by rw [hhp.out]
      have belr : Below w'.heap.size w' wr := K3.out.1.trans (hbr.out.mono (by omega))
      have S3 : Hid (wr.heap.size = w3.heap.size) := szr
      have BR := Lib.hid (And.intro blkr belr)
      clear blkr szr belr
      go_wp2_with fail
      refine (word9 w'.heap.size n w1.heap.size m to from_ f h HH.out hto hfrom wr (K3.out.2.2.2.1.of_block (BR.out.1 _)) (K3.out.2.2.2.2.1.of_block (BR.out.1 _))).mono ?_
      rintro e w4 ⟨rfl, hr4, hg4⟩
      have z4 : w3.heap.size ≤ w4.heap.size := by have := hg4.size; have := S3.out; omega
      have blk4 : ∀ k, k < w3.heap.size → k ≠ w'.heap.size → w4.heap[k]? = w3.heap[k]? := fun k hk hne => by
        rw [hg4.block k (by rw [S3.out]; exact hk) (by simpa using hne)]
        exact BR.out.1 k
      have bel4 : Below w'.heap.size w' w4 := below_of_grown BR.out.2 hg4 (by rw [S3.out]; omega) (Nat.le_refl _)
      have cf4 : ∀ k, k < n → w4.cell? ⟨g, o + k, none⟩ = some (.int .u8 (f k)) := fun k hk => (World.cell?_of_block (a := ⟨g, o + k, none⟩) (blk4 g (by omega) (by omega))).trans (K3.out.2.1 k hk)
      have ch4 : ∀ k, k < m → w4.cell? ⟨g', o' + k, none⟩ = some (.int .u8 (h k)) := fun k hk => (World.cell?_of_block (a := ⟨g', o' + k, none⟩) (blk4 g' (by omega) (by omega))).trans (K3.out.2.2.1 k hk)
      have rS4 : w4.rowIs w1.heap.size 5 m (fun j => .int .u8 (h j)) := K3.out.2.2.2.2.1.of_block (blk4 _ (by omega) (by omega))
      have rV4 : w4.rowIs w2.heap.size 5 8 (fun j => .int .u8 (f (to + j))) := K3.out.2.2.2.2.2.of_block (blk4 _ (by omega) (by omega))
      have K4 := Lib.hid (And.intro bel4 (And.intro cf4 (And.intro ch4 (And.intro hr4 (And.intro rS4 rV4)))))
      clear hr4 hg4 blk4 bel4 cf4 ch4 rS4 rV4
      go_wp2_with fail
      go_loop [13] (fun i => ∃ k : Nat, k ≤ n ∧ i = .int .i64 k) (fun i => n - (intOf i).toNat)
      case atStart => exact ⟨0, Nat.zero_le _, rfl⟩
      case round =>
        obtain ⟨j, hj, rfl⟩ := hrel
        by_cases hjn : j < n
        · have e1 := K4.out.2.1 j hjn
          have e2 := K4.out.2.2.2.1.cell hjn
          have hlt' : (j : Int) < (n : Int) := by omega
          by_cases hin : to ≤ j ∧ j < to + 8
          · have e4 := K4.out.2.2.1 (from_ + (j - to)) (by omega)
            have ex : put to from_ f h j = h (from_ + (j - to)) := by unfold put; rw [if_pos hin]
            rw [ex] at e2
            generalize h (from_ + (j - to)) = x at e2 e4
            rw [show from_ + (j - to) = from_ + j - to by omega] at e4
            obtain ⟨i1, i2⟩ := hin
            clear ex
            go_wp2
            go_round
            case rel => exact ⟨j + 1, by omega, by go_num⟩
            case measure => simp [intOf]; omega
          · have ex : put to from_ f h j = f j := by unfold put; rw [if_neg hin]
            rw [ex] at e2
            generalize f j = x at e1 e2
            clear ex
            by_cases i1 : (to : Int) ≤ (j : Int)
            · have i2 : ¬ (j : Int) < (to : Int) + 8 := by omega
              clear hin
              go_wp2
              go_round
              case rel => exact ⟨j + 1, by omega, by go_num⟩
              case measure => simp [intOf]; omega
            · clear hin
              go_wp2
              go_round
              case rel => exact ⟨j + 1, by omega, by go_num⟩
              case measure => simp [intOf]; omega
        · go_wp2_with fail
          refine (same_rows w1.heap.size 0 m g' o' c' m h hm w4 (fun k hk => by rw [Nat.zero_add]; exact K4.out.2.2.2.2.1.cell hk) K4.out.2.2.1).mono ?_
          rintro e w5 ⟨rfl, -, hb5, hp5⟩
          have P5 := Lib.hid (And.intro hb5 hp5)
          clear hb5 hp5
          go_wp2_with fail
          have q5 : w5.heap.size = w4.heap.size := by rw [P5.out.2]
          have Q5 := Lib.hid q5
          clear q5
          refine (word9 w'.heap.size n w2.heap.size 8 to 0 (put to from_ f h) (fun j => f (to + j)) (fun k hk => HF.out _ (by omega)) hto (by omega) w5 (K4.out.2.2.2.1.of_block (by rw [P5.out.2])) (K4.out.2.2.2.2.2.of_block (by rw [P5.out.2]))).mono ?_
          rintro e w6 ⟨rfl, hr6, hg6⟩
          have bel5 : Below w'.heap.size w' w5 := K4.out.1.trans (P5.out.1.mono (by omega))
          have bel6 : Below w'.heap.size w' w6 := below_of_grown bel5 hg6 (by rw [Q5.out]; omega) (Nat.le_refl _)
          have cf6 : ∀ k, k < n → w6.cell? ⟨g, o + k, none⟩ = some (.int .u8 (f k)) := fun k hk => by
            rw [World.cell?_of_block (w := w5) (a := ⟨g, o + k, none⟩) (hg6.block g (by rw [Q5.out]; omega) (by simp; omega)), World.cell?_of_block (w := w4) (a := ⟨g, o + k, none⟩) (by rw [P5.out.2])]
            exact K4.out.2.1 k hk
          have rD6 : ∀ k, k < n → w6.cell? ⟨w'.heap.size, 0 + k, none⟩ = some (.int .u8 (f k)) := fun k hk => by
            rw [Nat.zero_add, hr6.cell hk]
            congr 2
            unfold put
            by_cases e : to ≤ k ∧ k < to + 8
            · rw [if_pos e]
              show f (to + (0 + (k - to))) = _
              congr 1
              omega
            · rw [if_neg e, if_neg e]
          have K6 := Lib.hid (And.intro bel6 (And.intro cf6 rD6))
          clear bel5 bel6 cf6 rD6 hr6 hg6
          go_wp2_with fail
          refine (same_rows w'.heap.size 0 n g o c n f hn w6 K6.out.2.2 K6.out.2.1).mono ?_
          rintro e w7 ⟨rfl, -, hb7, -⟩
          have B7 := Lib.hid hb7
          clear hb7
          go_wp2
          go_ret
          exact ⟨rfl, K6.out.1.trans (B7.out.mono K6.out.1.size)⟩
end Go.Proofs.Qxb6616010a
