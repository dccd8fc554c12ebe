/-
  THE WALKS over the order of the hexadecimal texts: zzCompareText (13), zzCompareHashes (14) and the law FnObjectIDStringOrderIsHashOrder (5). The law's last statement draws its order of evaluation and loads two whole arrays beside two calls: there the loads are taken first by hand ('wpAnyH_take', 'yieldsIf_load_mid').
-/
import Derived.Test.Qxb6615161aHexWalks
import Derived.Test.Qxb6615161aCmp
import Derived.Deep.QuietTactic
import Derived.BigQuiet
import Derived.Deep.RegionHeld3
namespace Go.Proofs.Qxb6615161a
open Go.RowKit

/-- A string's bytes as numbers. -/
def strN (s : ByteArray) : List Int := s.data.toList.map fun b => (b.toNat : Int)
theorem strN_length (s : ByteArray) : (strN s).length = s.size := by simp [strN]
theorem strN_get (s : ByteArray) (k : Nat) (h : k < s.size) : (strN s).getD k 0 = ((s[k]'h).toNat : Int) := by
  have h' : k < s.data.toList.length := by simpa using h
  unfold strN
  rw [List.getD_eq_getElem?_getD, List.getElem?_map, List.getElem?_eq_getElem h']
  rfl

theorem ret_int {k : IntKind} {a b : Int} (h : a = b) : Ending.returned (.int k a) = .returned (.int k b) := by rw [h]

set_option maxHeartbeats 400000 in
theorem text_any (A B : ByteArray) (m : Nat) (hA : A.size = m) (hB : B.size = m) (hm : m ≤ 64) (w : World) :
    Calls Try.prog 13 #[.string A, .string B] w fun e w' => e = .returned (.int .i64 (cmpL (strN A) (strN B))) ∧ Below w.heap.size w w' := by
  have hg1 : ∀ k (h : k < A.size), (strN A).getD k 0 = ((A[k]'h).toNat : Int) := fun k h => strN_get A k h
  have hg2 : ∀ k (h : k < B.size), (strN B).getD k 0 = ((B[k]'h).toNat : Int) := fun k h => strN_get B k h
  have hl1 := strN_length A
  have hl2 := strN_length B
  rw [hA] at hl1
  rw [hB] at hl2
  have h0 := cmpL_range (strN A) (strN B)
  generalize strN A = xs at *
  generalize strN B = ys at *
  have G1 := Lib.hid hg1
  have G2 := Lib.hid hg2
  have L1 := Lib.hid hl1
  have L2 := Lib.hid hl2
  clear hg1 hg2 hl1 hl2 h0
  go_enter Try.func13, Try.ntmps13
  go_wp2
  go_loopw [6] (fun i wr => ∃ k : Nat, k ≤ m ∧ i = .int .i64 k ∧ Hid (cmpL (xs.drop k) (ys.drop k) = cmpL xs ys) ∧ Hid (Below w.heap.size w wr)) (fun i _ => m - (intOf i).toNat)
  case atStart => exact ⟨0, Nat.zero_le _, rfl, rfl, Below.refl _ _⟩
  case round =>
    obtain ⟨k, hk, rfl, hc, hb⟩ := hrel
    by_cases hlt : k < m
    · have ha : k < A.size := by omega
      have hb' : k < B.size := by omega
      have e1 := G1.out k ha
      have e2 := G2.out k hb'
      have E := Lib.hid (And.intro e1 e2)
      clear e1 e2
      by_cases h1 : A[k].toNat < B[k].toNat
      · go_wp2
        go_quiet (fail)
        go_wp2
        go_ret
        refine ⟨ret_int ?_, below_drewN hb.out _⟩
        rw [← hc.out, cmpL_lt (by rw [L1.out]; exact hlt) (by rw [L2.out]; exact hlt) (by rw [E.out.1, E.out.2]; omega)]
      · by_cases h2 : B[k].toNat < A[k].toNat
        · go_wp2
          go_quiet (fail)
          go_wp2
          go_quiet (fail)
          go_wp2
          go_ret
          refine ⟨ret_int ?_, below_drewN (below_drewN hb.out _) _⟩
          rw [← hc.out, cmpL_gt (by rw [L1.out]; exact hlt) (by rw [L2.out]; exact hlt) (by rw [E.out.1, E.out.2]; omega)]
        · go_wp2
          go_quiet (fail)
          go_wp2
          go_quiet (fail)
          go_wp2
          go_roundw
          case rel =>
            refine ⟨k + 1, by omega, by go_num, ?_, below_drewN hb.out _⟩
            show _ = _
            rw [← cmpL_eq (by rw [L1.out]; exact hlt) (by rw [L2.out]; exact hlt) (by rw [E.out.1, E.out.2]; omega) (by rw [E.out.1, E.out.2]; omega)]
            exact hc.out
          case measure => simp [intOf]; omega
    · go_wp2
      go_ret
      refine ⟨ret_int ?_, hb.out⟩
      rw [← hc.out, cmpL_end (by rw [L1.out]; omega)]

set_option maxHeartbeats 400000 in
theorem hash_any (xs ys : List Int) (hx : xs.length = 32) (hy : ys.length = 32) (n : Nat) (hn : n ≤ 32) (w : World) :
    Calls Try.prog 14 #[.agg (rowV xs), .agg (rowV ys), .int .i64 n] w fun e w' => e = .returned (.int .i64 (cmpL (xs.take n) (ys.take n))) ∧ Below w.heap.size w w' := by
  have hc1 : ∀ k, k < 32 → ((w.alloc (.cells (rowV xs) 31)).alloc (.cells (rowV ys) 31)).cell? ⟨w.heap.size, k, none⟩ = some (.int .u8 (xs.getD k 0)) := fun k hk => by
    rw [cell_of_row _ _ _ _ _ _ (heap_alloc2_old _ _ _), rowV_get _ _ (by omega)]
  have hc2 : ∀ k, k < 32 → ((w.alloc (.cells (rowV xs) 31)).alloc (.cells (rowV ys) 31)).cell? ⟨w.heap.size + 1, k, none⟩ = some (.int .u8 (ys.getD k 0)) := fun k hk => by
    rw [cell_of_row _ _ _ _ _ _ (heap_alloc2_new _ _ _), rowV_get _ _ (by omega)]
  generalize rowV xs = cs1 at *
  generalize rowV ys = cs2 at *
  have C1 := Lib.hid hc1
  have C2 := Lib.hid hc2
  have X1 := Lib.hid hx
  have X2 := Lib.hid hy
  have e0 : cmpL (xs.take n) (ys.take n) = cmpL ((xs.take n).drop 0) ((ys.take n).drop 0) := rfl
  have l1 : (xs.take n).length = n := by rw [List.length_take, hx]; omega
  have l2 : (ys.take n).length = n := by rw [List.length_take, hy]; omega
  have g1 : ∀ k, k < n → (xs.take n).getD k 0 = xs.getD k 0 := fun k hk => by simp [hk]
  have g2 : ∀ k, k < n → (ys.take n).getD k 0 = ys.getD k 0 := fun k hk => by simp [hk]
  have L1 := Lib.hid l1
  have L2 := Lib.hid l2
  have G1 := Lib.hid g1
  have G2 := Lib.hid g2
  generalize xs.take n = us at *
  generalize ys.take n = vs at *
  clear hc1 hc2 hx hy e0 l1 l2 g1 g2
  go_enter Try.func14, Try.ntmps14
  go_wp2
  go_loopw [7] (fun i wr => ∃ k : Nat, k ≤ n ∧ i = .int .i64 k ∧ Hid (cmpL (us.drop k) (vs.drop k) = cmpL us vs) ∧ Hid (Below (w.heap.size + 2) ((w.alloc (.cells cs1 31)).alloc (.cells cs2 31)) wr)) (fun i _ => n - (intOf i).toNat)
  case atStart => exact ⟨0, Nat.zero_le _, rfl, rfl, Below.refl _ _⟩
  case round =>
    obtain ⟨k, hk, rfl, hc, hb⟩ := hrel
    by_cases hlt : k < n
    · obtain ⟨x, hxk⟩ : ∃ x, x = xs.getD k 0 := ⟨_, rfl⟩
      obtain ⟨y, hyk⟩ : ∃ y, y = ys.getD k 0 := ⟨_, rfl⟩
      have c1 : wr.cell? ⟨w.heap.size, k, none⟩ = some (.int .u8 x) := by
        rw [hb.out.cell (p := ⟨w.heap.size, k, none⟩) (by simp), C1.out k (by omega), hxk]
      have c2 : wr.cell? ⟨w.heap.size + 1, k, none⟩ = some (.int .u8 y) := by
        rw [hb.out.cell (p := ⟨w.heap.size + 1, k, none⟩) (by simp), C2.out k (by omega), hyk]
      have hk32 : (k : Int) < 32 := by omega
      have E : Hid (us.getD k 0 = x ∧ vs.getD k 0 = y) := ⟨by rw [G1.out k hlt, hxk], by rw [G2.out k hlt, hyk]⟩
      clear hxk hyk
      by_cases h1 : x < y
      · go_wp2
        go_quiet (fail)
        go_wp2
        go_ret
        refine ⟨ret_int ?_, ?_⟩
        · rw [← hc.out, cmpL_lt (by rw [L1.out]; exact hlt) (by rw [L2.out]; exact hlt) (by rw [E.out.1, E.out.2]; omega)]
        · exact (((Below.refl _ w).alloc (Nat.le_refl _) _).alloc (by simp) _).trans (below_drewN (hb.out.mono (by omega)) _)
      · by_cases h2 : y < x
        · go_wp2
          go_quiet (fail)
          go_wp2
          go_quiet (fail)
          go_wp2
          go_ret
          refine ⟨ret_int ?_, ?_⟩
          · rw [← hc.out, cmpL_gt (by rw [L1.out]; exact hlt) (by rw [L2.out]; exact hlt) (by rw [E.out.1, E.out.2]; omega)]
          · exact (((Below.refl _ w).alloc (Nat.le_refl _) _).alloc (by simp) _).trans (below_drewN (below_drewN (hb.out.mono (by omega)) _) _)
        · go_wp2
          go_quiet (fail)
          go_wp2
          go_quiet (fail)
          go_wp2
          go_roundw
          case rel =>
            refine ⟨k + 1, by omega, by go_num, ?_, below_drewN hb.out _⟩
            show _ = _
            rw [← cmpL_eq (by rw [L1.out]; exact hlt) (by rw [L2.out]; exact hlt) (by rw [E.out.1, E.out.2]; omega) (by rw [E.out.1, E.out.2]; omega)]
            exact hc.out
          case measure => simp [intOf]; omega
    · go_wp2
      go_ret
      refine ⟨ret_int ?_, ?_⟩
      · rw [← hc.out, cmpL_end (by rw [L1.out]; omega)]
      · exact (((Below.refl _ w).alloc (Nat.le_refl _) _).alloc (by simp) _).trans (hb.out.mono (by omega))

theorem skip5 (cs ds : Array Value) (s : Int) (h0 : (s != 0) = true) (h1 : (s != 20) = true) (h2 : (s != 32) = true) (w : World) :
    Calls Try.prog 5 #[.agg cs, .agg ds, .int .u8 s] w fun e w' => e = .returned (.bool true) ∧ Below w.heap.size w w' := by
  go_enter Try.func5, Try.ntmps5
  go_wp2
  go_ret
  exact ⟨rfl, ((Below.refl _ _).alloc (Nat.le_refl _) _).alloc (by simp) _⟩

/-- What the last statement of the law loads stays readable while the calls of that statement make blocks of their own. -/
theorem keepS {W0 : World} {B b1 b2 : Nat} {l1 l2 : List Value} (h1 : b1 < B) (h2 : b2 < B) (hB : B ≤ W0.heap.size) (r1 : W0.rangeAt b1 0 l1) (r2 : W0.rangeAt b2 0 l2) (w w' : World) (h5 : Below w.heap.size w w')
    (hS : w.rangeAt b1 0 l1 ∧ w.rangeAt b2 0 l2 ∧ Below B W0 w) : w'.rangeAt b1 0 l1 ∧ w'.rangeAt b2 0 l2 ∧ Below B W0 w' := by
  have hb : Below B W0 w' := hS.2.2.trans (h5.mono (Nat.le_trans hB hS.2.2.size))
  exact ⟨fun j v hv => (hb.cell (p := ⟨b1, 0 + j, none⟩) h1).trans (r1 j v hv), fun j v hv => (hb.cell (p := ⟨b2, 0 + j, none⟩) h2).trans (r2 j v hv), hb⟩

set_option maxHeartbeats 1000000 in
theorem walk5 (xs ys : List Int) (hx : xs.length = 32) (hy : ys.length = 32) (rx : ∀ i, i < 32 → 0 ≤ xs.getD i 0 ∧ xs.getD i 0 < 256) (ry : ∀ i, i < 32 → 0 ≤ ys.getD i 0 ∧ ys.getD i 0 < 256) (n : Nat) (hn : n = 0 ∨ n = 20 ∨ n = 32) (w : World) :
    Calls Try.prog 5 #[.agg (rowV xs), .agg (rowV ys), .int .u8 n] w fun e w' => e = .returned (.bool true) ∧ Below w.heap.size w w' := by
  have new1 := fun w' => new_any (rowV xs) (by rw [rowV_size, hx]) (rowV_one xs) n w'
  have new2 := fun w' => new_any (rowV ys) (by rw [rowV_size, hy]) (rowV_one ys) n w'
  have str1 := fun w' => str_any xs hx rx n (by omega) w'
  have str2 := fun w' => str_any ys hy ry n (by omega) w'
  have i1 : (Try.prog.info? 31).map (·.size) = some (rowV xs).size := by rw [rowV_size, hx]; exact info31
  have i2 : (Try.prog.info? 31).map (·.size) = some (rowV ys).size := by rw [rowV_size, hy]; exact info31
  have s1 : (⟨(Lib.Hx.encode (Lib.bytesOf (xs.take n))).toArray⟩ : ByteArray).size = 2 * n := by
    show (Lib.Hx.encode (Lib.bytesOf (xs.take n))).length = _
    rw [Lib.Hx.encode_length, Lib.bytesOf_length, List.length_take, hx]; omega
  have s2 : (⟨(Lib.Hx.encode (Lib.bytesOf (ys.take n))).toArray⟩ : ByteArray).size = 2 * n := by
    show (Lib.Hx.encode (Lib.bytesOf (ys.take n))).length = _
    rw [Lib.Hx.encode_length, Lib.bytesOf_length, List.length_take, hy]; omega
  have bnd : ∀ (l : List Int), l.length = 32 → (∀ i, i < 32 → 0 ≤ l.getD i 0 ∧ l.getD i 0 < 256) → ∀ z ∈ l.take n, 0 ≤ z ∧ z < 256 := fun l hl hr z hz => by
    obtain ⟨i, hi, rfl⟩ := List.mem_iff_getElem.1 (List.mem_of_mem_take hz)
    have := hr i (by omega)
    rwa [List.getD_eq_getElem?_getD, List.getElem?_eq_getElem hi] at this
  have law : cmpL (strN ⟨(Lib.Hx.encode (Lib.bytesOf (xs.take n))).toArray⟩) (strN ⟨(Lib.Hx.encode (Lib.bytesOf (ys.take n))).toArray⟩) = cmpL (xs.take n) (ys.take n) :=
    cmpL_nums (xs.take n) (ys.take n) (bnd xs hx rx) (bnd ys hy ry)
  have n32 : n ≤ 32 := by omega
  have txt := fun w' => text_any ⟨(Lib.Hx.encode (Lib.bytesOf (xs.take n))).toArray⟩ ⟨(Lib.Hx.encode (Lib.bytesOf (ys.take n))).toArray⟩ (2 * n) s1 s2 (by omega) w'
  have hsh := fun w' => hash_any xs ys hx hy n n32 w'
  rw [law] at txt
  generalize cmpL (xs.take n) (ys.take n) = c at *
  generalize (rowV xs).push (.int .u8 n) = cs1' at *
  generalize (rowV ys).push (.int .u8 n) = cs2' at *
  generalize (⟨(Lib.Hx.encode (Lib.bytesOf (xs.take n))).toArray⟩ : ByteArray) = S1 at *
  generalize (⟨(Lib.Hx.encode (Lib.bytesOf (ys.take n))).toArray⟩ : ByteArray) = S2 at *
  have q1 : ((w.alloc (.cells (rowV xs) 31)).alloc (.cells (rowV ys) 31)).rangeAt w.heap.size 0 (xs.map (Value.int .u8)) := fun j v hv => by
    rw [cell_of_row _ _ _ _ _ _ (heap_alloc2_old _ _ _), Nat.zero_add]
    simpa [rowV] using hv
  have q2 : ((w.alloc (.cells (rowV xs) 31)).alloc (.cells (rowV ys) 31)).rangeAt (w.heap.size + 1) 0 (ys.map (Value.int .u8)) := fun j v hv => by
    rw [cell_of_row _ _ _ _ _ _ (heap_alloc2_new _ _ _), Nat.zero_add]
    simpa [rowV] using hv
  have er1 : rowV xs = (xs.map (Value.int .u8)).toArray := rfl
  have er2 : rowV ys = (ys.map (Value.int .u8)).toArray := rfl
  rw [er1, er2] at q1 q2 hsh ⊢
  rw [er1] at i1 new1
  rw [er2] at i2 new2
  clear er1 er2
  have z1 : (xs.map (Value.int .u8)).length = 32 := by rw [List.length_map, hx]
  have z2 : (ys.map (Value.int .u8)).length = 32 := by rw [List.length_map, hy]
  have o1 : ∀ v ∈ xs.map (Value.int .u8), v.oneCell' = true := fun v hv => by obtain ⟨z, _, rfl⟩ := List.mem_map.1 hv; rfl
  have o2 : ∀ v ∈ ys.map (Value.int .u8), v.oneCell' = true := fun v hv => by obtain ⟨z, _, rfl⟩ := List.mem_map.1 hv; rfl
  generalize xs.map (Value.int .u8) = l1 at *
  generalize ys.map (Value.int .u8) = l2 at *
  have j1 : (Try.prog.info? 31).map (·.size) = some l1.length := by rw [z1]; exact info31
  have j2 : (Try.prog.info? 31).map (·.size) = some l2.length := by rw [z2]; exact info31
  have J := Lib.hid (And.intro j1 j2)
  have Z := Lib.hid (And.intro z1 z2)
  have O := Lib.hid (And.intro o1 o2)
  have KS := Lib.hid (keepS (W0 := (w.alloc (.cells l1.toArray 31)).alloc (.cells l2.toArray 31)) (B := w.heap.size + 2) (by omega) (by omega) (by simp) q1 q2)
  have Q0 := Lib.hid (And.intro q1 q2)
  clear j1 j2 z1 z2 o1 o2 q1 q2
  have N1 := Lib.hid new1
  have N2 := Lib.hid new2
  have T1 := Lib.hid str1
  have T2 := Lib.hid str2
  have I1 := Lib.hid i1
  have I2 := Lib.hid i2
  have HT := Lib.hid txt
  have HH := Lib.hid hsh
  have hT : ((n : Int) != 0) = false ∨ (((n : Int) != 0) = true ∧ ((n : Int) != 20) = false) ∨ (((n : Int) != 0) = true ∧ ((n : Int) != 20) = true ∧ ((n : Int) != 32) = false) := by
    rcases hn with rfl | rfl | rfl <;> decide
  clear new1 new2 str1 str2 i1 i2 hx hy rx ry bnd law txt hsh hn
  rcases hT with t0 | ⟨t0, t1⟩ | ⟨t0, t1, t2⟩
  all_goals
    go_enter Try.func5, Try.ntmps5
    go_wp2_with (refine wpList_load_row rfl 31 _ rfl w.heap.size rfl 31 l1.toArray (0, 0) _ (heap_alloc2_old _ _ _) Try.underlying31 rfl I1.out ?_)
    refine (N1.out _).mono ?_
    rintro e w1 ⟨rfl, hb1⟩
    go_wp2_with fail
    refine (T1.out _).mono ?_
    rintro e w2 ⟨rfl, hb2⟩
    have hb : Below (w.heap.size + 2) ((w.alloc (.cells l1.toArray 31)).alloc (.cells l2.toArray 31)) w2 := by
      have e : ((w.alloc (.cells l1.toArray 31)).alloc (.cells l2.toArray 31)).heap.size = w.heap.size + 2 := by simp
      rw [e] at hb1
      refine hb1.trans (hb2.mono ?_)
      have := hb1.size
      omega
    have HB := Lib.hid hb
    clear hb hb1 hb2
    go_wp2_with (refine wpList_load_row rfl 31 _ rfl (w.heap.size + 1) rfl 31 l2.toArray (0, 0) _ ((HB.out.block _ (by omega)).trans (heap_alloc2_new _ _ _)) Try.underlying31 rfl I2.out ?_)
    refine (N2.out _).mono ?_
    rintro e w3 ⟨rfl, hb3⟩
    go_wp2_with fail
    refine (T2.out _).mono ?_
    rintro e w4 ⟨rfl, hb4⟩
    have hb5 : Below (w.heap.size + 2) ((w.alloc (.cells l1.toArray 31)).alloc (.cells l2.toArray 31)) w4 := by
      have k2 := HB.out.size
      have e : ((w.alloc (.cells l1.toArray 31)).alloc (.cells l2.toArray 31)).heap.size = w.heap.size + 2 := by simp
      have k3 := hb3.size
      exact HB.out.trans ((hb3.mono (by omega)).trans (hb4.mono (by omega)))
    have HB5 := Lib.hid hb5
    have K0 := Lib.hid (KS.out w4 w4.drew (Below.drew (Below.refl _ _)) ⟨(KS.out _ w4 (hb5.mono (by simp)) ⟨Q0.out.1, Q0.out.2, Below.refl _ _⟩).1, (KS.out _ w4 (hb5.mono (by simp)) ⟨Q0.out.1, Q0.out.2, Below.refl _ _⟩).2.1, hb5⟩)
    clear hb3 hb4 hb5
    go_wp2_with fail
    obtain ⟨j1, j2⟩ := J.out
    obtain ⟨z1, z2⟩ := Z.out
    obtain ⟨o1, o2⟩ := O.out
    have u31 := Try.underlying31
    refine wp_region_held_drew (S := fun w' => w'.rangeAt w.heap.size 0 l1 ∧ w'.rangeAt (w.heap.size + 1) 0 l2 ∧ Below (w.heap.size + 2) ((w.alloc (.cells l1.toArray 31)).alloc (.cells l2.toArray 31)) w') (by kernel_rfl) K0.out (fun hHeld => ?_)
    refine wpAnyH_take (i := 0) (v := .string S1) rfl (by kernel_rfl) (by kernel_rfl) (by kernel_rfl) (fun _ _ _ h => h) (Or.inl ⟨by rfl, fun _ _ => rfl⟩) hHeld ?_
    refine wpAnyH_take (i := 1) (v := .string S2) rfl (by kernel_rfl) (by kernel_rfl) (by kernel_rfl) (fun _ _ _ h => h) (Or.inl ⟨by rfl, fun _ _ => rfl⟩) hHeld ?_
    refine wpAnyH_take (i := 3) (v := .agg l1.toArray) rfl (by kernel_rfl) (by kernel_rfl) (by kernel_rfl) (fun _ _ _ h => h) (yieldsIf_load_mid (by rfl) _ _ rfl _ _ rfl _ _ (fun _ hw => hw.1) u31 rfl j1) hHeld ?_
    refine wpAnyH_take (i := 4) (v := .agg l2.toArray) rfl (by kernel_rfl) (by kernel_rfl) (by kernel_rfl) (fun _ _ _ h => h) (yieldsIf_load_mid (by rfl) _ _ rfl _ _ rfl _ _ (fun _ hw => hw.2.1) u31 rfl j2) hHeld ?_
    refine wpAnyH_take (i := 5) (v := .int .i64 n) rfl (by kernel_rfl) (by kernel_rfl) (by kernel_rfl) (fun _ _ _ h => h) (Or.inl ⟨by rfl, fun _ _ => rfl⟩) hHeld ?_
    simp only [Act.put, List.setIfInBounds_toArray]
    clear j1 j2 z1 z2 o1 o2
    refine wpAnyH_ready (rs := [2]) (by kernel_rfl) (by simp) (AllReadyH.cons rfl (fun K hK => ?_) AllReadyH.nil)
    go_simp
    refine (HT.out _).mono ?_
    rintro e w5 ⟨rfl, hb5⟩
    go_wp2_with fail
    refine hK.out _ _ (KS.out _ _ hb5 hHeld) (fun hHeld2 => ?_)
    clear hK K hb5 hHeld
    refine wpAnyH_ready (rs := [6]) (by kernel_rfl) (by simp) (AllReadyH.cons rfl (fun K hK => ?_) AllReadyH.nil)
    go_simp
    refine (HH.out _).mono ?_
    rintro e w6 ⟨rfl, hb6⟩
    go_wp2_with fail
    refine hK.out _ _ (KS.out _ _ hb6 hHeld2) (fun hHeld3 => ?_)
    clear hK K hb6 hHeld2
    refine wpAnyH_take (i := 7) (v := .bool true) rfl (by kernel_rfl) (by kernel_rfl) (by kernel_rfl) (fun _ _ _ h => h) (Or.inl ⟨by rfl, fun _ _ => by go_simp⟩) hHeld3 ?_
    refine wpAnyH_take (i := 8) (v := .bool true) rfl (by kernel_rfl) (by kernel_rfl) (by kernel_rfl) (fun _ _ _ h => h) (Or.inl ⟨by rfl, fun _ _ => rfl⟩) hHeld3 ?_
    refine wpAnyH_done (by kernel_rfl) ?_ _
    go_wp2
    go_ret
    exact ⟨rfl, ((((Below.refl _ w).alloc (Nat.le_refl _) _).alloc (by simp) _).trans (hHeld3.2.2.mono (by omega)))⟩
end Go.Proofs.Qxb6615161a
