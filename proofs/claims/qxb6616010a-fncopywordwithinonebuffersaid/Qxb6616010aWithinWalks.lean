/-
  THE WALKS of the law FnCopyWordWithinOneBuffer (4): the roads that answer true at once; the main road: three copies of a word, and the loop that looks at every byte.
-/
import Derived.Test.Qxb6616010aWord
namespace Go.Proofs.Qxb6616010a
open Go.RowKit

/-! ### The law FnCopyWordWithinOneBuffer (4) -/
theorem within_many (a : Option Addr) (n c : Nat) (to from_ : Int) (h : ¬ n ≤ 1048576) (w : World) :
    Calls Try.prog 4 #[.slice a n c, .int .i64 to, .int .i64 from_] w fun e w' => e = .returned (.bool true) ∧ Below w.heap.size w w' := by
  go_enter Try.func4, Try.ntmps4
  go_wp2_with (go_at_call 11; refine (bytes11_many a n c to from_ h _).mono ?_; rintro e w' ⟨rfl, rfl⟩)
  go_ret
  exact ⟨rfl, Below.refl _ _⟩
theorem within_long (a : Option Addr) (n c : Nat) (to from_ : Int) (h : n ≤ 1048576) (h2 : ¬ n ≤ 65536) (w : World) :
    Calls Try.prog 4 #[.slice a n c, .int .i64 to, .int .i64 from_] w fun e w' => e = .returned (.bool true) ∧ Below w.heap.size w w' := by
  have t1 : (65536 : Int) < (n : Int) := by omega
  go_enter Try.func4, Try.ntmps4
  go_wp2_with (go_at_call 11; refine (bytes11_few a n c to from_ h _).mono ?_; rintro e w' ⟨rfl, rfl⟩)
  go_ret
  exact ⟨rfl, Below.refl _ _⟩
theorem within_off (a : Option Addr) (n c : Nat) (to from_ : Int) (h2 : n ≤ 65536) (h3 : to < 0 ∨ (n : Int) - 8 < to ∨ from_ < 0 ∨ (n : Int) - 8 < from_) (w : World) :
    Calls Try.prog 4 #[.slice a n c, .int .i64 to, .int .i64 from_] w fun e w' => e = .returned (.bool true) ∧ Below w.heap.size w w' := by
  have h1 : n ≤ 1048576 := by omega
  have t1 : ¬ (65536 : Int) < (n : Int) := by omega
  by_cases a1 : to < 0
  · clear h3
    go_enter Try.func4, Try.ntmps4
    go_wp2_with (go_at_call 11; refine (bytes11_few a n c to from_ h1 _).mono ?_; rintro e w' ⟨rfl, rfl⟩)
    go_ret
    exact ⟨rfl, Below.refl _ _⟩
  by_cases a2 : (n : Int) - 8 < to
  · clear h3
    go_enter Try.func4, Try.ntmps4
    go_wp2_with (go_at_call 11; refine (bytes11_few a n c to from_ h1 _).mono ?_; rintro e w' ⟨rfl, rfl⟩)
    go_ret
    exact ⟨rfl, Below.refl _ _⟩
  by_cases a3 : from_ < 0
  · clear h3
    go_enter Try.func4, Try.ntmps4
    go_wp2_with (go_at_call 11; refine (bytes11_few a n c to from_ h1 _).mono ?_; rintro e w' ⟨rfl, rfl⟩)
    go_ret
    exact ⟨rfl, Below.refl _ _⟩
  have a4 : (n : Int) - 8 < from_ := by omega
  clear h3
  go_enter Try.func4, Try.ntmps4
  go_wp2_with (go_at_call 11; refine (bytes11_few a n c to from_ h1 _).mono ?_; rintro e w' ⟨rfl, rfl⟩)
  go_ret
  exact ⟨rfl, Below.refl _ _⟩

set_option maxHeartbeats 1000000 in
theorem within_main (g o n c to from_ : Nat) (f : Nat → Int) (hn : n ≤ 65536) (hto : to + 8 ≤ n) (hfrom : from_ + 8 ≤ n) (hf : ∀ k, k < n → 0 ≤ f k ∧ f k < 256) (w : World)
    (hc : ∀ k, k < n → w.cell? ⟨g, o + k, none⟩ = some (.int .u8 (f k))) (hg : g < w.heap.size) :
    Calls Try.prog 4 #[.slice (some ⟨g, o, none⟩) n c, .int .i64 to, .int .i64 from_] w fun e w' => e = .returned (.bool true) ∧ Below w.heap.size w w' := by
  have CL := Lib.hid (fun w => clone_row g o n c f hn (by omega) w)
  have HC := Lib.hid hc
  have HG := Lib.hid hg
  have HF := Lib.hid hf
  have hmk : ∀ w : World, (Instr.makeSlice 22 (.int .i64 8) (.int .i64 8)).run Try.prog w = .ok (.slice (some ⟨w.heap.size, 0, none⟩) 8 8) (w.alloc (.cells (madeCells #[.int .u8 0] 8) 5)) := fun w => run_make_row' (P := Try.prog) 22 5 (.int .u8 0) 1 Try.underlying22 infoByte rfl .i64 .i64 8 (by omega) (by omega) w
  clear hc hg hf
  have h1 : n ≤ 1048576 := by omega
  have t1 : ¬ (65536 : Int) < (n : Int) := by omega
  have a2 : ¬ (n : Int) - 8 < (to : Int) := by omega
  have a4 : ¬ (n : Int) - 8 < (from_ : Int) := by omega
  go_enter Try.func4, Try.ntmps4
  go_wp2_with (go_at_call 11; refine (bytes11_few (some ⟨g, o, none⟩) n c to from_ h1 _).mono ?_; rintro e w' ⟨rfl, rfl⟩)
  refine (CL.out _ HC.out HG.out).mono ?_
  rintro e w1 ⟨rfl, hr1, hb1⟩
  have R1 := Lib.hid hr1
  have HB1 := Lib.hid hb1
  clear hr1 hb1
  go_wp2_with fail
  refine (word9 w'.heap.size n w'.heap.size n to from_ f f HF.out hto hfrom w1 R1.out R1.out).mono ?_
  rintro e w2 ⟨rfl, hr2, hg2⟩
  have R2 := Lib.hid hr2
  have G2 := Lib.hid hg2
  clear hr2 hg2
  go_wp2_with fail
  have hc2 : ∀ k, k < n → w2.cell? ⟨g, o + k, none⟩ = some (.int .u8 (f k)) := fun k hk => by
    have := HG.out
    refine G2.out.cell ?_ (by simp; omega)
    rw [HB1.out.cell (p := ⟨g, o + k, none⟩) HG.out]
    exact HC.out k hk
  have C2 := Lib.hid hc2
  clear hc2
  refine (CL.out w2 C2.out (by have := G2.out.size; have := HB1.out.size; have := HG.out; omega)).mono ?_
  rintro e w3 ⟨rfl, hr3, hb3⟩
  have R3 := Lib.hid hr3
  have HB3 := Lib.hid hb3
  clear hr3 hb3
  go_wp2_with fail
  have z1 := R1.out.lt
  have z2 := G2.out.size
  have z3 := R3.out.lt
  have z0 := HG.out
  refine (word9 w3.heap.size 8 w2.heap.size n 0 from_ (fun _ => 0) f HF.out (by omega) hfrom _ (World.rowIs_made w3 (.int .u8 0) 8 5) (R3.out.alloc _)).mono ?_
  rintro e w5 ⟨rfl, hr5, hg5⟩
  have hs5 : w5.rowIs w2.heap.size 5 n (fun j => .int .u8 (f j)) := (R3.out.alloc _).of_block (hg5.block _ (by simp; omega) (by simp; omega))
  have R5 := Lib.hid (And.intro hr5 hs5)
  have G5 := Lib.hid hg5
  clear hr5 hg5 hs5
  go_wp2_with fail
  refine (word9 w2.heap.size n w3.heap.size 8 to 0 f (put 0 from_ (fun _ => 0) f) ?_ hto (by omega) w5 R5.out.2 R5.out.1).mono ?_
  · intro k hk
    unfold put
    rw [if_pos (by omega)]
    exact HF.out _ (by omega)
  rintro e w6 ⟨rfl, hr6, hg6⟩
  -- what the loop reads
  have y5 : w3.heap.size + 1 ≤ w5.heap.size := by have := G5.out.size; simpa using this
  have blk : ∀ k, k < w'.heap.size + 1 → w6.heap[k]? = w2.heap[k]? := fun k hk => by
    rw [hg6.block k (by omega) (by simp; omega), G5.out.block k (by simp; omega) (by simp; omega)]
    show (w3.alloc _).heap[k]? = _
    rw [Below.heap_alloc _ _ _ (by omega)]
    exact HB3.out.block k (by omega)
  have cb : ∀ k, k < n → w6.cell? ⟨g, o + k, none⟩ = some (.int .u8 (f k)) := fun k hk => (World.cell?_of_block (a := ⟨g, o + k, none⟩) (blk g (by omega))).trans (C2.out k hk)
  have cd : ∀ k, k < n → w6.cell? ⟨w'.heap.size, k, none⟩ = some (.int .u8 (put to from_ f f k)) := fun k hk => (World.cell?_of_block (a := ⟨w'.heap.size, k, none⟩) (blk w'.heap.size (by omega))).trans (R2.out.cell hk)
  have ce : ∀ k, k < n → w6.cell? ⟨w2.heap.size, k, none⟩ = some (.int .u8 (put to from_ f f k)) := fun k hk => by
    rw [hr6.cell hk]
    congr 2
    unfold put
    by_cases e : to ≤ k ∧ k < to + 8
    · rw [if_pos e, if_pos e, if_pos (by omega)]
      congr 1
      omega
    · rw [if_neg e, if_neg e]
  have bel : Below w'.heap.size w' w6 := by
    have b1 : Below w'.heap.size w' w2 := HB1.out.trans ⟨G2.out.os, G2.out.tape, G2.out.output, G2.out.size, fun k hk => G2.out.block k (by omega) (by simp; omega)⟩
    have b3 : Below w'.heap.size w' w3 := b1.trans (HB3.out.mono (by omega))
    have b5 : Below w'.heap.size w' w5 := (b3.alloc (by omega) (.cells (madeCells #[.int .u8 0] 8) 5)).trans ⟨G5.out.os, G5.out.tape, G5.out.output, G5.out.size, fun k hk => G5.out.block k (by simp; omega) (by simp; omega)⟩
    exact b5.trans ⟨hg6.os, hg6.tape, hg6.output, hg6.size, fun k hk => hg6.block k (by omega) (by simp; omega)⟩
  have CC := Lib.hid (And.intro cb (And.intro cd ce))
  have HBL := Lib.hid bel
  clear cb cd ce bel blk hr6 hg6
  go_wp2_with fail
  go_loop [10] (fun i => ∃ k : Nat, k ≤ n ∧ i = .int .i64 k) (fun i => n - (intOf i).toNat)
  case atStart => exact ⟨0, Nat.zero_le _, rfl⟩
  case round =>
    obtain ⟨k, hk, rfl⟩ := hrel
    by_cases hlt : k < n
    · have e1 := CC.out.1 k hlt
      have e2 := CC.out.2.1 k hlt
      have e3 := CC.out.2.2 k hlt
      have hlt' : (k : Int) < (n : Int) := by omega
      by_cases hin : to ≤ k ∧ k < to + 8
      · have e4 := CC.out.1 (from_ + (k - to)) (by omega)
        have ex : put to from_ f f k = f (from_ + (k - to)) := by unfold put; rw [if_pos hin]
        rw [ex] at e2 e3
        generalize f (from_ + (k - to)) = x at e2 e3 e4
        rw [show from_ + (k - to) = from_ + k - to by omega] at e4
        obtain ⟨i1, i2⟩ := hin
        clear ex
        go_wp2
        go_round
        case rel => exact ⟨k + 1, by omega, by go_num⟩
        case measure => simp [intOf]; omega
      · have ex : put to from_ f f k = f k := by unfold put; rw [if_neg hin]
        rw [ex] at e2 e3
        generalize f k = x at e1 e2 e3
        clear ex
        by_cases i1 : (to : Int) ≤ (k : Int)
        · have i2 : ¬ (k : Int) < (to : Int) + 8 := by omega
          clear hin
          go_wp2
          go_round
          case rel => exact ⟨k + 1, by omega, by go_num⟩
          case measure => simp [intOf]; omega
        · clear hin
          go_wp2
          go_round
          case rel => exact ⟨k + 1, by omega, by go_num⟩
          case measure => simp [intOf]; omega
    · go_wp2
      go_ret
      exact ⟨rfl, HBL.out⟩
end Go.Proofs.Qxb6616010a
