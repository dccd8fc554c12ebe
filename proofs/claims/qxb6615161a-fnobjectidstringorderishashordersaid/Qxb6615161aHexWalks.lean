/-
  THE WALKS over the hexadecimal text of an object id: ZZnewObjectID (10), objectID.String (11), zzHexDigit (12) and the law FnObjectIDStringIsLowerHexOfHash (4). An array of 32 bytes is carried as 'rowV zs' (never written out cell by cell); encoding/hex.EncodeToString is met by the shelf's contract.
-/
import Derived.Test.Qxb6615161aRows
import Derived.Test.Qxb6615161aShelf
import Derived.WalkKit
import Derived.WalkSpells
import Derived.WalkLawsBesides
import Derived.Laws.Rows
import Derived.Laws.Tables
import Derived.Great.BuildSlice
import Derived.Lib.Hide
import Derived.Deep.WholeRow
namespace Go.Proofs.Qxb6615161a
open Go.RowKit

theorem built33_raw (c0 c1 c2 c3 c4 c5 c6 c7 c8 c9 c10 c11 c12 c13 c14 c15 c16 c17 c18 c19 c20 c21 c22 c23 c24 c25 c26 c27 c28 c29 c30 c31 : Value) (s : Int) :
    Try.prog.built 33 [(0, .agg #[c0, c1, c2, c3, c4, c5, c6, c7, c8, c9, c10, c11, c12, c13, c14, c15, c16, c17, c18, c19, c20, c21, c22, c23, c24, c25, c26, c27, c28, c29, c30, c31]), (1, .int .u8 s)] = some #[c0, c1, c2, c3, c4, c5, c6, c7, c8, c9, c10, c11, c12, c13, c14, c15, c16, c17, c18, c19, c20, c21, c22, c23, c24, c25, c26, c27, c28, c29, c30, c31, .int .u8 s] := by kernel_rfl

theorem built33 (cs : Array Value) (hc : cs.size = 32) (s : Int) : Try.prog.built 33 [(0, .agg cs), (1, .int .u8 s)] = some (cs.push (.int .u8 s)) := by
  obtain ⟨l⟩ := cs
  match l, hc with
  | [c0, c1, c2, c3, c4, c5, c6, c7, c8, c9, c10, c11, c12, c13, c14, c15, c16, c17, c18, c19, c20, c21, c22, c23, c24, c25, c26, c27, c28, c29, c30, c31], _ => exact built33_raw ..

theorem info31 : (Try.prog.info? 31).map (·.size) = some 32 := by kernel_rfl
theorem info33 : (Try.prog.info? 33).map (·.size) = some 33 := by kernel_rfl

set_option maxHeartbeats 400000 in
theorem new_any (cs : Array Value) (hc : cs.size = 32) (h1 : cs.all (·.oneCell') = true) (s : Int) (w : World) :
    Calls Try.prog 10 #[.agg cs, .int .u8 s] w fun e w' => e = .returned (.agg (cs.push (.int .u8 s))) ∧ Below w.heap.size w w' := by
  have H32 : Hid ((Try.prog.info? 31).map (·.size) = some cs.size) := by rw [hc]; exact info31
  have HB : Hid (Try.prog.built 33 [(0, .agg cs), (1, .int .u8 s)] = some (cs.push (.int .u8 s))) := built33 cs hc s
  have H33 : Hid ((Try.prog.info? 33).map (·.size) = some (cs.push (.int .u8 s)).size) := by rw [Array.size_push, hc]; exact info33
  have HC : Hid (33 = (cs.push (.int .u8 s)).size) := by show 33 = _; rw [Array.size_push, hc]
  have H1 : Hid ((cs.push (.int .u8 s)).all (·.oneCell') = true) := by rw [Array.all_push, h1]; rfl
  obtain ⟨cs', HE⟩ : ∃ cs', Hid (cs' = cs.push (.int .u8 s)) := ⟨_, rfl⟩
  rw [← HE.out] at HB H33 HC H1 ⊢
  clear hc h1
  go_enter Try.func10, Try.ntmps10
  go_wp2_with (first
    | refine wpList_load_row rfl 31 _ rfl w.heap.size rfl 31 cs (0, 0) _ (heap_alloc2_old _ _ _) Try.underlying31 rfl H32.out ?_
    | (refine wpList_buildTo rfl 33 _ rfl (some 7) rfl cs' ?hb ?_; (case hb => simpa [Act.eval] using HB.out))
    | refine wpList_store_rowTo rfl 33 _ _ rfl rfl (w.heap.size + 1) cs' rfl rfl 33 _ (heap_alloc2_new _ _ _) H33.out HC.out H1.out ?_)
  refine bodyPost_ret (v := .agg cs') (results_cell_row (p := 4) (ty := 33) rfl _ _ (w.heap.size + 1) 33 cs' (0, 0) _ rfl (setRow_heap _ _ _ _ _ _ (heap_alloc2_new _ _ _)) Try.underlying33 rfl H33.out) rfl ⟨rfl, ?_⟩
  refine ⟨rfl, rfl, rfl, by simp; omega, fun k hk => ?_⟩
  rw [setRow_other _ _ _ _ (by omega)]
  exact (((Below.refl _ w).alloc (Nat.le_refl _) _).alloc (by simp) _).block k hk

/-- The cells of a row of bytes, as a Go array of bytes holds them. -/
def rowV (zs : List Int) : Array Value := (zs.map (Value.int .u8)).toArray

theorem rowV_size (zs : List Int) : (rowV zs).size = zs.length := by simp [rowV]
theorem rowV_one (zs : List Int) : (rowV zs).all (·.oneCell') = true := by simp [rowV, Value.oneCell']
theorem rowV_get (zs : List Int) (i : Nat) (h : i < zs.length) : (rowV zs)[i]? = some (.int .u8 (zs.getD i 0)) := by
  simp [rowV, h]

set_option maxHeartbeats 400000 in
theorem str_any (zs : List Int) (hz : zs.length = 32) (hr : ∀ i, i < 32 → 0 ≤ zs.getD i 0 ∧ zs.getD i 0 < 256) (n : Nat) (hn : n ≤ 32) (w : World) :
    Calls Try.prog 11 #[.agg ((rowV zs).push (.int .u8 n))] w fun e w' => e = .returned (.string ⟨(Lib.Hx.encode (Lib.bytesOf (zs.take n))).toArray⟩) ∧ Below w.heap.size w w' := by
  have hg : ((rowV zs).push (.int .u8 n))[32]? = some (.int .u8 n) := by rw [Array.getElem?_push, rowV_size, hz]; rfl
  have hcell : ∀ i, i < n → (w.alloc (.cells ((rowV zs).push (.int .u8 n)) 33)).cell? ⟨w.heap.size, 0 + i, none⟩ = some (.int .u8 ((zs.take n).getD i 0)) := fun i hi => by
    rw [cell_of_row _ _ _ _ _ _ (heap_alloc_new _ _), Nat.zero_add, Array.getElem?_push, rowV_size, hz, if_neg (by omega), rowV_get zs i (by omega)]
    simp [hi]
  have hsz : ((rowV zs).push (.int .u8 n)).size = 33 := by rw [Array.size_push, rowV_size, hz]
  generalize (rowV zs).push (.int .u8 n) = cs at *
  have HC := hcell
  have hl : (w.alloc (.cells cs 33)).cell? ⟨w.heap.size, 32, none⟩ = some (.int .u8 n) := by
    rw [cell_of_row _ _ _ _ _ _ (heap_alloc_new _ _)]; exact hg
  have H1 : Hid (∀ i, i < n → (w.alloc (.cells cs 33)).cell? ⟨w.heap.size, 0 + i, none⟩ = some (.int .u8 ((zs.take n).getD i 0))) := hcell
  have H2 : Hid (∀ i, i < 32 → 0 ≤ zs.getD i 0 ∧ zs.getD i 0 < 256) := hr
  have H3 : Hid (zs.length = 32) := hz
  have H4 : Hid (cs.size = 33) := hsz
  clear hcell HC hr hz hsz hg
  have hsl : ∀ wx : World, (Instr.sliceAt 31 (.pointer (some ⟨w.heap.size, 0, none⟩)) none (some (.int .u8 (n : Int))) none).run Try.prog wx = .ok (.slice (some ⟨w.heap.size, 0, none⟩) n 32) wx := fun wx => by
    have e : Try.prog.arrayLen 31 = 32 := by kernel_rfl
    have := run_sliceAt_array_h (P := Try.prog) (w := wx) (t := 31) (a := ⟨w.heap.size, 0, none⟩) (by kernel_rfl) .u8 (n : Int) (by omega) (by rw [e]; omega)
    have e2 : Try.prog.elem 31 = 5 := by kernel_rfl
    rw [e, e2] at this
    rw [this]
    simp [Try.sizeOf5, slicedAt, Addr.add]
  go_enter Try.func11, Try.ntmps11
  go_wp2_with fail
  refine (Try.hex_EncodeToString w.heap.size 0 n 32 (zs.take n) _ (by rw [List.length_take, H3.out]; omega) (fun i hi => ?_) H1.out (by simp) (by omega)).mono ?_
  · have := H2.out i (by omega)
    simpa [List.getElem?_take, hi] using this
  rintro e w1 ⟨rfl, hb⟩
  go_wp2
  go_ret
  exact ⟨rfl, ((Below.refl _ _).alloc (Nat.le_refl _) _).trans (hb.mono (by simp))⟩

theorem hex_09 (c : Int) (h0 : 48 ≤ c) (h1 : c ≤ 57) (w : World) :
    Calls Try.prog 12 #[.int .u8 c] w fun e w' => e = .returned (.tuple #[.int .i64 (c - 48), .bool true]) ∧ w' = w := by
  go_enter Try.func12, Try.ntmps12
  go_wp2
  go_ret2
  exact ⟨rfl, rfl⟩
theorem hex_af (c : Int) (h0 : 97 ≤ c) (h1 : c ≤ 102) (w : World) :
    Calls Try.prog 12 #[.int .u8 c] w fun e w' => e = .returned (.tuple #[.int .i64 (c - 97 + 10), .bool true]) ∧ w' = w := by
  have h2 : ¬ c ≤ 57 := by omega
  have h3 : 48 ≤ c := by omega
  go_enter Try.func12, Try.ntmps12
  go_wp2
  go_ret2
  exact ⟨rfl, rfl⟩

theorem digit_small (d : Nat) (h : d < 10) : ((Lib.Hx.digit d).toNat : Int) = 48 + d := by
  have : ∀ d : Fin 10, ((Lib.Hx.digit d.1).toNat : Int) = 48 + d.1 := by decide
  exact this ⟨d, h⟩
theorem digit_great (d : Nat) (h : 10 ≤ d) (h' : d < 16) : ((Lib.Hx.digit d).toNat : Int) = 87 + d := by
  have : ∀ d : Fin 16, 10 ≤ d.1 → ((Lib.Hx.digit d.1).toNat : Int) = 87 + d.1 := by decide
  exact this ⟨d, h'⟩ h

theorem hexd (d : Int) (h0 : 0 ≤ d) (h1 : d < 16) (c : Int) (h : c = ((Lib.Hx.digit d.toNat).toNat : Int)) (w : World) :
    Calls Try.prog 12 #[.int .u8 c] w fun e w' => e = .returned (.tuple #[.int .i64 d, .bool true]) ∧ w' = w := by
  by_cases hd : d < 10
  · rw [digit_small _ (by omega)] at h
    have e : c - 48 = d := by omega
    have := hex_09 c (by omega) (by omega) w
    rwa [e] at this
  · rw [digit_great _ (by omega) (by omega)] at h
    have e : c - 97 + 10 = d := by omega
    have := hex_af c (by omega) (by omega) w
    rwa [e] at this

theorem skip4 (cs : Array Value) (s : Int) (h0 : (s != 0) = true) (h1 : (s != 20) = true) (h2 : (s != 32) = true) (w : World) :
    Calls Try.prog 4 #[.agg cs, .int .u8 s] w fun e w' => e = .returned (.bool true) ∧ Below w.heap.size w w' := by
  go_enter Try.func4, Try.ntmps4
  go_wp2
  go_ret
  exact ⟨rfl, (Below.refl _ _).alloc (Nat.le_refl _) _⟩

set_option maxHeartbeats 400000 in
theorem walk4 (zs : List Int) (hz : zs.length = 32) (hr : ∀ i, i < 32 → 0 ≤ zs.getD i 0 ∧ zs.getD i 0 < 256) (n : Nat) (hn : n = 0 ∨ n = 20 ∨ n = 32) (w : World) :
    Calls Try.prog 4 #[.agg (rowV zs), .int .u8 n] w fun e w' => e = .returned (.bool true) ∧ Below w.heap.size w w' := by
  have hnew := new_any (rowV zs) (by rw [rowV_size, hz]) (rowV_one zs) n (w.alloc (.cells (rowV zs) 31))
  have hstr := fun w' => str_any zs hz hr n (by omega) w'
  have hcl : ∀ k, k < 32 → (w.alloc (.cells (rowV zs) 31)).cell? ⟨w.heap.size, k, none⟩ = some (.int .u8 (zs.getD k 0)) := fun k hk => by
    rw [cell_of_row _ _ _ _ _ _ (heap_alloc_new _ _), rowV_get _ _ (by omega)]
  have hi : (Try.prog.info? 31).map (·.size) = some (rowV zs).size := by rw [rowV_size, hz]; exact info31
  have hL : (Lib.bytesOf (zs.take n)).length = n := by rw [Lib.bytesOf_length, List.length_take, hz]; omega
  have hS : (Lib.Hx.encode (Lib.bytesOf (zs.take n))).length = 2 * n := by rw [Lib.Hx.encode_length, hL]
  generalize (rowV zs).push (.int .u8 n) = cs' at *
  generalize rowV zs = cs at *
  have HN := Lib.hid hnew
  have HS := Lib.hid hstr
  have HC := Lib.hid hcl
  have HI := Lib.hid hi
  have HR := Lib.hid hr
  have HZ := Lib.hid hz
  have HL := Lib.hid hL
  have hSz : (⟨(Lib.Hx.encode (Lib.bytesOf (zs.take n))).toArray⟩ : ByteArray).size = 2 * n := hS
  have hD : ∀ k, k < n → ∀ (h1 : 2 * k < (⟨(Lib.Hx.encode (Lib.bytesOf (zs.take n))).toArray⟩ : ByteArray).size) (h2 : 2 * k + 1 < (⟨(Lib.Hx.encode (Lib.bytesOf (zs.take n))).toArray⟩ : ByteArray).size),
      ((⟨(Lib.Hx.encode (Lib.bytesOf (zs.take n))).toArray⟩ : ByteArray)[2 * k].toNat : Int) = ((Lib.Hx.digit (zs.getD k 0 / 16).toNat).toNat : Int) ∧ ((⟨(Lib.Hx.encode (Lib.bytesOf (zs.take n))).toArray⟩ : ByteArray)[2 * k + 1].toNat : Int) = ((Lib.Hx.digit (zs.getD k 0 % 16).toNat).toNat : Int) := fun k hk h1 h2 => by
    have hb := hr k (by omega)
    have hkz : k < (zs.take n).length := by rw [List.length_take, hz]; omega
    have e := Lib.Hx.bytes_at (zs.take n) k hkz
    have eg : (zs.take n).getD k 0 = zs.getD k 0 := by simp [hk]
    rw [eg] at e
    obtain ⟨e1, e2⟩ := Lib.Hx.encode_at _ k _ e
    rw [Lib.Hx.byte_toNat _ hb.1 hb.2] at e1 e2
    rw [show (zs.getD k 0).toNat / 16 = (zs.getD k 0 / 16).toNat by omega] at e1
    rw [show (zs.getD k 0).toNat % 16 = (zs.getD k 0 % 16).toNat by omega] at e2
    have g1 := (List.getElem?_eq_some_iff.1 e1).2
    have g2 := (List.getElem?_eq_some_iff.1 e2).2
    constructor
    · rw [← g1]; rfl
    · rw [← g2]; rfl
  generalize (⟨(Lib.Hx.encode (Lib.bytesOf (zs.take n))).toArray⟩ : ByteArray) = S at *
  have HD := Lib.hid hD
  have h32 : n ≤ 32 := by omega
  have hT : ((n : Int) != 0) = false ∨ (((n : Int) != 0) = true ∧ ((n : Int) != 20) = false) ∨ (((n : Int) != 0) = true ∧ ((n : Int) != 20) = true ∧ ((n : Int) != 32) = false) := by
    rcases hn with rfl | rfl | rfl <;> decide
  clear hnew hstr hcl hi hr hz hL hS hD hn
  rcases hT with t0 | ⟨t0, t1⟩ | ⟨t0, t1, t2⟩
  all_goals
    go_enter Try.func4, Try.ntmps4
    go_wp2_with (refine wpList_load_row rfl 31 _ rfl w.heap.size rfl 31 cs (0, 0) _ (heap_alloc_new _ _) Try.underlying31 rfl HI.out ?_)
    refine HN.out.mono ?_
    rintro e w1 ⟨rfl, hb1⟩
    go_wp2_with fail
    refine (HS.out _).mono ?_
    rintro e w2 ⟨rfl, hb2⟩
    have hb : Below (w.heap.size + 1) (w.alloc (.cells cs 31)) w2 := by
      have e : (w.alloc (.cells cs 31)).heap.size = w.heap.size + 1 := by simp
      rw [e] at hb1
      refine hb1.trans (hb2.mono ?_)
      have := hb1.size
      omega
    have HB := Lib.hid hb
    clear hb hb1 hb2
    go_wp2_with fail
    go_loop [7] (fun i => ∃ k : Nat, k ≤ n ∧ i = .int .i64 k) (fun i => n - (intOf i).toNat)
    case atStart => exact ⟨0, Nat.zero_le _, rfl⟩
    case round =>
      obtain ⟨k, hk, rfl⟩ := hrel
      by_cases hlt : k < n
      · obtain ⟨x, hx⟩ : ∃ x, x = zs.getD k 0 := ⟨_, rfl⟩
        have hx0 : 0 ≤ x := by rw [hx]; exact (HR.out k (by omega)).1
        have hx1 : x < 256 := by rw [hx]; exact (HR.out k (by omega)).2
        have hcx : w2.cell? ⟨w.heap.size, k, none⟩ = some (.int .u8 x) := by
          rw [HB.out.cell (p := ⟨w.heap.size, k, none⟩) (by simp), HC.out k (by omega), hx]
        have hd := HD.out k hlt (by omega) (by omega)
        rw [← hx] at hd
        obtain ⟨hi, hhi⟩ : ∃ h, h = x / 16 := ⟨_, rfl⟩
        obtain ⟨lo, hlo⟩ : ∃ l, l = x % 16 := ⟨_, rfl⟩
        rw [← hhi, ← hlo] at hd
        have b0 : 0 ≤ hi := by omega
        have b1 : hi < 16 := by omega
        have b2 : 0 ≤ lo := by omega
        have b3 : lo < 16 := by omega
        have hsum : hi * 16 + lo = x := by omega
        have H2 := Lib.hid hd
        clear hx hd hhi hlo
        go_wp2_with fail
        refine (hexd hi b0 b1 _ H2.out.1 _).mono ?_
        rintro e w3 ⟨rfl, rfl⟩
        go_wp2_with fail
        refine (hexd lo b2 b3 _ H2.out.2 _).mono ?_
        rintro e w4 ⟨rfl, rfl⟩
        go_wp2
        go_round
        case rel => exact ⟨k + 1, by omega, by go_num⟩
        case measure => simp [intOf]; omega
      · go_wp2
        go_ret
        exact ⟨rfl, ((Below.refl _ w).alloc (Nat.le_refl _) _).trans (HB.out.mono (by omega))⟩
end Go.Proofs.Qxb6615161a
