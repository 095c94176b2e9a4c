/-
  strings.Join at this program: the walks of Grow and Join.
  Conditions: none.
-/
import Derived.Test.YthggnkmlnjlggaaGreatDoorRepl
import Derived.Shelf.Strings.Builder2
namespace Go.Proofs.YthggnkmlnjlggaaGreatDoor
open Go.RowKit
attribute [local go_sem ↓] Go.wp_at_zero Go.wp_at_succ

theorem Tryz.bldExtra2 : Builder.Extra Tryz.prog Tryz.lays241_ren where
  sizeBuilder := by kernel_rfl
  liesBuilder := by kernel_rfl
  t5 := Tryz.underlying5
  a5 := Tryz.isAgg5
  z5 := Tryz.sizeOf5
  v5 := Tryz.zeroValue5
  infoByte := by kernel_rfl
  cellsByte := by kernel_rfl
  sizeByte := by kernel_rfl
  neB5 := by decide
theorem below_drewN {B : Nat} {w w' : World} (h : Below B w w') (n : Nat) : Below B w (w'.drewN n) := ⟨h.os, h.tape, h.output, h.size, h.block⟩
/-- A fresh builder with room. -/
def GrowAns (B b : Nat) (w : World) (e : Ending) (w' : World) : Prop := e = .returned (.tuple #[]) ∧ Bld B b [] w' ∧ Below B w w'
theorem grow_inner (B b n : Nat) (w : World) (hB : B ≤ b) (hbk : w.heap[b]? = some (.cells #[.pointer (some ⟨b, 0, none⟩), .slice none 0 0] 113 (0, 0))) (hBw : B ≤ w.heap.size) (hn : n ≤ 70368744177664) :
    Calls Tryz.prog 87 #[.pointer (some ⟨b, 0, none⟩), .int .i64 (n : Nat)] w (GrowAns B b w) := by
  refine (Any.Builder_grow_fresh Tryz.lays241 Tryz.bldExtra2 B b n w hB hbk hBw (by omega)).mono ?_
  rintro e w' ⟨h1, h2, h3⟩
  exact ⟨h1, .inr h2, h3⟩
set_option maxHeartbeats 2000000 in
set_option maxRecDepth 100000 in
theorem grow_any (B b n : Nat) (w : World) (hB : B ≤ b) (hb : Blk w b #[.pointer none, .slice none 0 0] 113) (hBw : B ≤ w.heap.size) (hn : n ≤ 70368744177664) :
    Calls Tryz.prog 70 #[.pointer (some ⟨b, 0, none⟩), .int .i64 (n : Nat)] w (GrowAns B b w) := by
  have h0 := hb.cell 0
  have HC := Lib.hid (bld_fresh b w h0 (by unfold Blk at hb; simp [World.shape?, hb]) (hb.frozen 0))
  have HB := Lib.hid (show Blk (w.setCell ⟨b, 0, none⟩ (.pointer (some ⟨b, 0, none⟩))) b #[.pointer (some ⟨b, 0, none⟩), .slice none 0 0] 113 from hb.set 0 _)
  have HBL := Lib.hid (show Below B w (w.setCell ⟨b, 0, none⟩ (.pointer (some ⟨b, 0, none⟩))) from (Below.refl B w).setCell (p := ⟨b, 0, none⟩) hB _)
  have hnn : ¬ ((n : Int) < 0) := by omega
  clear hb h0
  go_enter Tryz.func70, Tryz.ntmps70
  go_upto_region 3 with (go_at_call 86; go_must (refine HC.out.mono ?_; rintro e w1 ⟨rfl, rfl⟩))
  have c1 := HB.out.cell 1
  simp at c1
  have hlt := HB.out.lt
  by_cases hn0 : n = 0
  · subst hn0
    go_quiet (fail)
    go_wp2
    go_end0
    exact ⟨rfl, .inr ⟨hB, _, HB.out, World.ownsRow_nil _ _ _ _, by simp [Value.ownBlock]⟩, below_drewN HBL.out _⟩
  · have hnp : (0 : Int) < (n : Int) := by omega
    have hnp2 : 0 < n := by omega
    go_quiet (fail)
    have HG := Lib.hid (grow_inner B b n ((w.setCell ⟨b, 0, none⟩ (.pointer (some ⟨b, 0, none⟩))).drewN nq) hB HB.out (by have := HBL.out.size; simpa using Nat.le_trans hBw this) hn)
    go_wp2_with (go_at_call 87; go_must (refine HG.out.mono ?_; rintro e w2 ⟨rfl, h2, h3⟩; have H2 := Lib.hid h2; have H3 := Lib.hid h3; clear h2 h3))
    go_end0
    exact ⟨rfl, H2.out, (below_drewN HBL.out _).trans H3.out⟩
/-- The texts of a slice. -/
def Texts (w : World) (g : Nat) (xs : List ByteArray) : Prop := g < w.heap.size ∧ ∀ i, i < xs.length → w.cell? ⟨g, i, none⟩ = some (.string (xs.getD i ⟨#[]⟩))
theorem Texts.old {w w' : World} {g : Nat} {xs : List ByteArray} (h : Texts w g xs) (ho : Old w w') : Texts w' g xs := ⟨Nat.lt_of_lt_of_le h.1 ho.size, fun i hi => ho.cell (h.2 i hi)⟩
set_option maxHeartbeats 2000000 in
set_option maxRecDepth 100000 in
theorem join_none (w : World) (A : Option Addr) (c : Nat) : Calls Tryz.prog 61 #[.slice A 0 c, .string ⟨#[9]⟩] w fun e w' => e = .returned (.string (joinT [])) ∧ Old w w' := by
  go_enter Tryz.func61, Tryz.ntmps61
  go_wp2
  go_ret
  exact ⟨rfl, Old.refl w⟩
set_option maxHeartbeats 2000000 in
set_option maxRecDepth 100000 in
theorem join_one (w : World) (g c : Nat) (x : ByteArray) (h : Texts w g [x]) : Calls Tryz.prog 61 #[.slice (some ⟨g, 0, none⟩) 1 c, .string ⟨#[9]⟩] w fun e w' => e = .returned (.string (joinT [x])) ∧ Old w w' := by
  have h0 : w.cell? ⟨g, 0, none⟩ = some (.string x) := h.2 0 (by simp)
  go_enter Tryz.func61, Tryz.ntmps61
  go_wp2
  go_ret
  refine ⟨?_, Old.refl w⟩
  simp [joinT, tailL]
set_option maxHeartbeats 4000000 in
set_option maxRecDepth 100000 in
theorem join_many (w : World) (g c : Nat) (xs : List ByteArray) (h : Texts w g xs) (hm : 2 ≤ xs.length) (hmx : xs.length ≤ 2147483648) (hsz : sizesT xs xs.length ≤ 35184372088832) (hcap : xs.length ≤ c) : Calls Tryz.prog 61 #[.slice (some ⟨g, 0, none⟩) xs.length c, .string ⟨#[9]⟩] w fun e w' => e = .returned (.string (joinT xs)) ∧ Old w w' := by
  obtain ⟨m, hmm⟩ : ∃ m, m = xs.length := ⟨_, rfl⟩
  rw [← hmm] at hm hmx hsz hcap ⊢
  have HM := Lib.hid hmm
  have HT := Lib.hid h
  have HSZ := Lib.hid hsz
  have e0 : ((m : Int) == 0) = false := by simp; omega
  have e1 : ((m : Int) == 1) = false := by simp; omega
  have e0' : m ≠ 0 := by omega
  have e1' : m ≠ 1 := by omega
  have s1 : IntKind.i64.wrap ((m : Int) - 1) = (m : Int) - 1 := IntWalk.i64_in _ (by omega)
  have hq0 : ¬ ((m : Int) - 1 = 0) := by omega
  have s2 : IntKind.i64.wrap ((9223372036854775807 : Int).tdiv ((m : Int) - 1)) = 9223372036854775807 / ((m : Int) - 1) := IntWalk.i64_quo _ _ (by omega)
  have s3 : ¬ (9223372036854775807 / ((m : Int) - 1) ≤ 1) := by
    intro hle
    have := Int.ediv_mul_le 9223372036854775807 (b := (m : Int) - 1) hq0
    have h2 := Int.lt_ediv_add_one_mul_self 9223372036854775807 (b := (m : Int) - 1) (by omega)
    have h3 : (9223372036854775807 / ((m : Int) - 1) + 1) * ((m : Int) - 1) ≤ 2 * ((m : Int) - 1) := Int.mul_le_mul_of_nonneg_right (by omega) (by omega)
    omega
  clear hmm h hsz
  go_enter Tryz.func61, Tryz.ntmps61
  go_wp2
  go_loopg [5, 41] m (fun gk s5 s41 wr => ∃ k, k + gk = m ∧ s5 = .int .i64 ((m : Int) - 1 + (sizesT xs k : Nat)) ∧ s41 = .int .i64 (k : Nat) ∧ w = wr)
  case atStart => exact ⟨0, by omega, by simp [sizesT], by go_num, rfl⟩
  case round =>
    obtain ⟨k, hk, rfl, rfl, rfl⟩ := hrel
    have hle : ∀ j, j ≤ m → sizesT xs j ≤ 35184372088832 := fun j hj => Nat.le_trans (sizesT_mono xs hj) HSZ.out
    by_cases hlt : k < m
    · have hx := HT.out.2 k (by rw [← HM.out]; exact hlt)
      have hsn := sizesT_snoc xs k (by rw [← HM.out]; exact hlt)
      have h1 := hle (k + 1) (by omega)
      have HSN := Lib.hid hsn
      obtain ⟨x, hxx⟩ : ∃ x, x = xs.getD k ⟨#[]⟩ := ⟨_, rfl⟩
      rw [← hxx] at hx hsn
      rw [hsn] at h1
      obtain ⟨S, hS⟩ : ∃ S, S = sizesT xs k := ⟨_, rfl⟩
      rw [← hS] at h1 hsn ⊢
      have HSN2 := Lib.hid hsn
      clear hxx hsn hS HSN hle
      have t1 : IntKind.i64.wrap (9223372036854775807 - ((m : Int) - 1 + (S : Nat))) = 9223372036854775807 - ((m : Int) - 1 + (S : Nat)) := IntWalk.i64_in _ (by omega)
      have t2 : ¬ (9223372036854775807 - ((m : Int) - 1 + (S : Nat)) < (x.size : Nat)) := by omega
      have t3 : IntKind.i64.wrap ((m : Int) - 1 + (S : Nat) + (x.size : Nat)) = (m : Int) - 1 + (S : Nat) + (x.size : Nat) := IntWalk.i64_in _ (by omega)
      have t4 : IntKind.i64.wrap ((k : Int) + 1) = (k : Int) + 1 := IntWalk.i64_in _ (by omega)
      have hkm : (k : Int) < (m : Nat) := by omega
      go_wp2
      go_roundg (gk - 1)
      case measure => omega
      case rel => exact ⟨k + 1, by omega, by rw [HSN2.out]; congr 1; omega, by go_num, rfl⟩
    · obtain rfl : k = m := by omega
      have h1 := hle k (Nat.le_refl _)
      obtain ⟨N, hN⟩ : ∃ N : Nat, (N : Int) = (k : Int) - 1 + (sizesT xs k : Nat) := ⟨k - 1 + sizesT xs k, by omega⟩
      rw [← hN]
      clear hle
      obtain ⟨wb, hwb⟩ : ∃ wb, wb = w.alloc (.cells #[.pointer none, .slice none 0 0] 113) := ⟨_, rfl⟩
      have hbz : wb.heap.size = w.heap.size + 1 := by rw [hwb]; simp
      have HO := Lib.hid (show Old w wb by rw [hwb]; exact (Old.refl w).alloc _)
      have HG := Lib.hid (grow_any w.heap.size w.heap.size N wb (Nat.le_refl _) (by rw [hwb]; exact Blk.new w _ _) (by omega) (by omega))
      clear hN
      go_upto_region 19 with (fail)
      rw [← hwb]
      clear hwb
      go_upto_region 20 with (go_at_call 70; go_must (refine HG.out.mono ?_; rintro e w1 ⟨rfl, hb1, hl1⟩; have HB1 := Lib.hid hb1; have HL1 := Lib.hid hl1; clear hb1 hl1))
      have hbl1 : Below w.heap.size w w1 := (HO.out.below).trans HL1.out
      have HW1 := Lib.hid (Old.of_below hbl1)
      have hT1 := HT.out.old HW1.out
      have x0c := hT1.2 0 (by rw [← HM.out]; omega)
      obtain ⟨x0, hx0⟩ : ∃ x0, x0 = xs.getD 0 ⟨#[]⟩ := ⟨_, rfl⟩
      rw [← hx0] at x0c
      have hz1 : sizesT xs 1 ≤ 35184372088832 := Nat.le_trans (sizesT_mono xs (show 1 ≤ k by omega)) HSZ.out
      have hz0 : sizesT xs 1 = x0.size := by rw [sizesT_snoc xs 0 (by rw [← HM.out]; omega), ← hx0]; simp [sizesT]
      rw [hz0] at hz1
      have HWS := Lib.hid (bld_string w.heap.size w.heap.size [] x0 w1 HB1.out (by simp; omega) hbl1.size)
      have hgl := hT1.1
      have HB1L := Lib.hid hbl1
      have HX0 := Lib.hid hx0
      have HZ0 := Lib.hid hz0
      have hk1 : (1 : Int) ≤ (k : Nat) := by omega
      have hkc : (k : Int) ≤ (c : Nat) := by omega
      have hkpos : (0 : Int) < (k : Nat) := by omega
      clear hbl1 hT1 hx0 hz0
      go_upto_region 22 with (go_at_call 71; go_must (refine HWS.out.mono ?_; rintro e w2 ⟨rfl, hb2, hl2⟩; have HB2 := Lib.hid hb2; have HL2 := Lib.hid hl2; clear hb2 hl2))
      have hst : Lib.strCells x0 = ucells (x0.data.toList ++ tailL ((xs.drop 1).take 0)) := by simp [Lib.strCells, ucells, tailL]
      have HB3 := Lib.hid (show Bld w.heap.size w.heap.size (ucells (x0.data.toList ++ tailL ((xs.drop 1).take 0))) w2 by rw [← hst]; simpa using HB2.out)
      have HL3 := Lib.hid (show Below w.heap.size w w2 from HB1L.out.trans HL2.out)
      clear hst
      go_loopg [65] (k - 1) (fun gk s65 wr => ∃ j, j + gk = k - 1 ∧ s65 = .int .i64 (j : Nat) ∧ Bld w.heap.size w.heap.size (ucells (x0.data.toList ++ tailL ((xs.drop 1).take j))) wr ∧ Below w.heap.size w wr)
      case atStart => exact ⟨0, by omega, by go_num, HB3.out, HL3.out⟩
      case round =>
        obtain ⟨j, hj, rfl, hbj, hlj⟩ := hrel
        have hcell := fun hq => (HT.out.old (Old.of_below hlj)).2 (j + 1) hq
        by_cases hjl : j < k - 1
        · have hc1 := hcell (by rw [← HM.out]; omega)
          have hgr : g < wr.heap.size := (HT.out.old (Old.of_below hlj)).1
          obtain ⟨y, hy⟩ : ∃ y, y = xs.getD (j + 1) ⟨#[]⟩ := ⟨_, rfl⟩
          rw [← hy, Nat.add_comm j 1] at hc1
          have hji : (j : Int) < (k : Int) - 1 := by omega
          have hji2 : (1 : Int) + (j : Int) < (c : Int) := by omega
          have t4 : IntKind.i64.wrap ((j : Int) + 1) = (j : Int) + 1 := IntWalk.i64_in _ (by omega)
          have HBJ := Lib.hid hbj
          have HLJ := Lib.hid hlj
          have HY := Lib.hid hy
          clear hcell hbj hlj hy
          have hlen := tail_len xs j (by rw [← HM.out]; omega)
          rw [← HX0.out] at hlen
          have hsz1 : sizesT xs (j + 1) ≤ 35184372088832 := Nat.le_trans (sizesT_mono xs (show j + 1 ≤ k by omega)) HSZ.out
          have hsz2 : sizesT xs (j + 1 + 1) ≤ 35184372088832 := Nat.le_trans (sizesT_mono xs (show j + 1 + 1 ≤ k by omega)) HSZ.out
          rw [sizesT_snoc xs (j + 1) (by rw [← HM.out]; omega), ← HY.out] at hsz2
          have HB9 := Lib.hid (bld_string w.heap.size w.heap.size _ ⟨#[9]⟩ wr HBJ.out (by have : (ByteArray.mk #[9]).size = 1 := rfl; rw [ucells, List.length_map, hlen]; omega) HLJ.out.size)
          have HTS := Lib.hid (tailL_snoc (xs.drop 1) j (by rw [List.length_drop, ← HM.out]; omega))
          have HDR := Lib.hid (show (xs.drop 1).getD j ⟨#[]⟩ = y by rw [HY.out]; simp [List.getD_eq_getElem?_getD])
          go_upto_region 24 with (fail)
          go_upto_region 25 with (go_at_call 71; go_must (refine HB9.out.mono ?_; rintro e w8 ⟨rfl, hb8, hl8⟩; have HB8 := Lib.hid hb8; have HL8 := Lib.hid hl8; clear hb8 hl8))
          have HBY := Lib.hid (bld_string w.heap.size w.heap.size _ y w8 HB8.out (by have : (ByteArray.mk #[9]).size = 1 := rfl; rw [List.length_append, ucells, List.length_map, hlen, Lib.strCells_length]; omega) (by have := HLJ.out.size; have := HL8.out.size; omega))
          clear hsz1 hsz2 hlen
          go_wp2_with (go_at_call 71; go_must (refine HBY.out.mono ?_; rintro e w9 ⟨rfl, hb9, hl9⟩; have HB10 := Lib.hid hb9; have HL9 := Lib.hid hl9; clear hb9 hl9))
          go_roundg (gk - 1)
          case measure => omega
          case rel =>
            refine ⟨j + 1, by omega, by go_num, ?_, HLJ.out.trans (HL8.out.trans HL9.out)⟩
            have hbb := HB10.out
            rw [HTS.out, HDR.out, ← List.append_assoc]
            have e : ucells (x0.data.toList ++ tailL ((xs.drop 1).take j) ++ (9 :: y.data.toList)) = ucells (x0.data.toList ++ tailL ((xs.drop 1).take j)) ++ Lib.strCells ⟨#[9]⟩ ++ Lib.strCells y := by
              simp [ucells, Lib.strCells]
            rw [e]
            exact hbb
        · have hj2 : j = k - 1 := by omega
          subst hj2
          have hjoin : joinT xs = ⟨(x0.data.toList ++ tailL ((xs.drop 1).take (k - 1))).toArray⟩ := by
            have hne : xs ≠ [] := fun e => by have := HM.out; rw [e] at this; simp at this; omega
            obtain ⟨a, r, rfl⟩ : ∃ a r, xs = a :: r := by
              cases xs with
              | nil => exact absurd rfl hne
              | cons a r => exact ⟨a, r, rfl⟩
            have h0 := HX0.out
            have hm := HM.out
            simp only [List.getD_cons_zero] at h0
            rw [List.length_cons] at hm
            rw [h0, List.drop_succ_cons, List.drop_zero, List.take_of_length_le (by omega)]
            rfl
          have hst := bld_text w.heap.size w.heap.size (joinT xs) wr (by rw [hjoin]; simpa [Lib.strCells, ucells] using hbj) hlj.size
          have HST := Lib.hid hst
          have HLJ := Lib.hid hlj
          clear hcell hbj hlj hst hjoin
          go_wp2_with (go_at_call 69; go_must (refine HST.out.mono ?_; rintro e w10 ⟨rfl, hl10⟩; have HL10 := Lib.hid hl10; clear hl10))
          go_ret
          exact ⟨rfl, Old.of_below (HLJ.out.trans HL10.out)⟩
end Go.Proofs.YthggnkmlnjlggaaGreatDoor
