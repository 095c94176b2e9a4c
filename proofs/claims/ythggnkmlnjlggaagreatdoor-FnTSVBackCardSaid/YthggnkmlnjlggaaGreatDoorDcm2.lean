/-
  Decimals in memory: a digit; a decimal made of a number.
  Conditions: none.
-/
import Derived.Test.YthggnkmlnjlggaaGreatDoorDcm
import Derived.Deep.DeepMust
import Derived.Lib.ConvBytes
namespace Go.Proofs.YthggnkmlnjlggaaGreatDoor
open Go.RowKit

set_option maxRecDepth 100000 in
theorem digit_any (w : World) (g : Nat) (v : Value) (ds : List Nat) (dp : Int) (h : DecAt w g v ds dp) (i : Nat) : Calls Tryz.prog 157 #[.pointer (some ⟨g, 0, none⟩), .int .i64 (i : Nat)] w fun e w' => e = .returned (.int .u8 (ds.getD i 0 : Nat)) ∧ w' = w := by
  obtain ⟨A, c, rfl, hc⟩ := h.row.len
  have x0 : w.cell? ⟨g, 0, none⟩ = some (.slice A ds.length c) := h.blk.cell 0
  by_cases hi : i < ds.length
  · obtain ⟨b, o, rfl, hb, k0⟩ := h.row.at_ i hi
    obtain ⟨d, hd⟩ : ∃ d, d = ds.getD i 0 := ⟨_, rfl⟩
    rw [← hd] at k0 ⊢
    clear h hd
    go_enter Tryz.func157, Tryz.ntmps157
    go_wp2
    go_ret
    exact ⟨rfl, rfl⟩
  · have hz : ds.getD i 0 = 0 := by simp [List.getD_eq_getElem?_getD, List.getElem?_eq_none (by omega : ds.length ≤ i)]
    rw [hz]
    clear h hz
    go_enter Tryz.func157, Tryz.ntmps157
    go_wp2
    go_ret
    exact ⟨rfl, rfl⟩

theorem getD_ne_of_head {ds : List Nat} (hh : ds.head? ≠ some 0) (hne : ds ≠ []) : ds.getD 0 0 ≠ 0 := by
  match ds, hne with
  | a :: r, _ =>
    intro e
    exact hh (by simpa using e)
/-- What is left behind the zeros. -/
theorem trimmed {ds : List Nat} {j : Nat} (hlt : ∀ d ∈ ds, d < 10) (hh : ds.head? ≠ some 0) (hne : ds ≠ []) (hj : j ≤ ds.length) (hz : ∀ i, j ≤ i → ds.getD i 0 = 0) (hl : 0 < j → ds.getD (j - 1) 0 ≠ 0) :
    0 < j ∧ Canon (ds.take j) ∧ ∀ s dp, (ds.length : Int) ≤ dp + (s : Nat) → sc s (ds.take j) dp = sc s ds dp := by
  have h0 : 0 < j := by
    rcases Nat.eq_zero_or_pos j with rfl | h
    · exact absurd (hz 0 (Nat.le_refl _)) (getD_ne_of_head hh hne)
    · exact h
  have hd : ds = ds.take j ++ List.replicate (ds.length - j) 0 := by
    refine List.ext_getElem (by simp; omega) fun i h1 h2 => ?_
    by_cases hi : i < j
    · rw [List.getElem_append_left (by simp; omega)]
      simp
    · rw [List.getElem_append_right (by simp; omega)]
      simp
      have := hz i (by omega)
      simpa [List.getD_eq_getElem?_getD, List.getElem?_eq_getElem h1] using this
  refine ⟨h0, ⟨fun d hd => hlt d (List.mem_of_mem_take hd), ?_, ?_⟩, fun s dp hs => ?_⟩
  · match ds, j, h0 with
    | [], _, _ => simp
    | a :: r, j + 1, _ => simpa using hh
  · have e : ds.take j = ds.take (j - 1) ++ [ds.getD (j - 1) 0] := by
      obtain ⟨i, rfl⟩ : ∃ i, j = i + 1 := ⟨j - 1, by omega⟩
      rw [Nat.add_sub_cancel, List.take_succ_eq_append_getElem (by omega)]
      simp [List.getD_eq_getElem?_getD, List.getElem?_eq_getElem (by omega : i < ds.length)]
    rw [e, vald_snoc]
    have h1 := hl h0
    have h2 := pre_digit hlt (j - 1)
    omega
  · have := sc_zeros (s := s) (r := ds.take j) (n := ds.length - j) (dp := dp) (by simp; omega)
    rw [← hd] at this
    exact this.symm

theorem run_bytes (s : ByteArray) (w : World) : ∃ c w', (convert 9 75 (.string s)).run Tryz.prog w = .ok (.slice (some ⟨w.heap.size, 0, none⟩) s.size c) w' ∧ Old w w' ∧ w'.heap.size = w.heap.size + 1 ∧ s.size ≤ c ∧ ∀ i, i < s.size → w'.cell? ⟨w.heap.size, i, none⟩ = some (.int .u8 ((s.data.toList.getD i 0).toNat : Int)) := by
  refine ⟨_, _, Lib.run_convert_string_bytes w _ _ 5 s Tryz.underlying9 Tryz.underlying75 Tryz.underlying5, ⟨rfl, rfl, rfl, by rw [Lib.bytesWorld_size]; omega, fun k hk _ => Lib.bytesWorld_at_old _ _ _ k hk⟩, Lib.bytesWorld_size _ _ _, grownCap_ge _ _ _ _, fun i hi => Lib.bytesWorld_cell _ _ _ i hi⟩
theorem Tryz.infoByte : (Tryz.prog.info? 5).map (fun i => (i.zero, i.size, i.bytes)) = some (some (.int .u8 0), 1, 1) := by kernel_rfl
/-- Digits as cells. -/
def dcells (ds : List Nat) : List Value := ds.map fun d => Value.int .u8 (d : Nat)
theorem dcells_snoc {ds : List Nat} {k : Nat} (hk : k < ds.length) : dcells (ds.take k) ++ [.int .u8 (ds.getD k 0 : Nat)] = dcells (ds.take (k + 1)) := by
  rw [List.take_succ_eq_append_getElem hk]
  simp only [dcells, List.map_append, List.map_cons, List.map_nil, List.getD_eq_getElem?_getD, List.getElem?_eq_getElem hk, Option.getD_some]
/-- A row of the call's own, read as digits. -/
theorem drow_own {w : World} {g base n : Nat} {v : Value} {ds : List Nat} (h : w.ownsRow base 5 1 v n (dcells ds)) (hn : n = ds.length) (hg : g < base) : DRow w g v ds := by
  subst hn
  refine SliceV.of_own h (fun k hk => ?_) fun i hi => ⟨rfl, fun j hj => ?_⟩
  · have := (own_lt h hk).1
    omega
  · obtain rfl : j = 0 := by omega
    simp [dcells, List.getD_eq_getElem?_getD, List.getElem?_eq_getElem hi]
theorem dstr_at {n i : Nat} (hi : i < (digs n).length) : ((dstr n).data.toList.getD i 0).toNat = 48 + (digs n).getD i 0 ∧ (digs n).getD i 0 < 10 := by
  have h1 := digs_lt n _ (List.getElem_mem hi)
  have h2 := dsign_toNat h1
  simp [dstr, List.getD_eq_getElem?_getD, List.getElem?_eq_getElem hi]
  exact ⟨h2, h1⟩
theorem dstr_len (n : Nat) : (dstr n).size = (digs n).length := by simp [dstr, ByteArray.size]

/-- A decimal that has been made. -/
def NewDec (w : World) (n : Nat) (e : Ending) (w' : World) : Prop :=
  ∃ g v ds dp, e = .returned (.pointer (some ⟨g, 0, none⟩)) ∧ w.heap.size ≤ g ∧ DecAt w' g v ds dp ∧ Canon ds ∧ (ds.length : Int) ≤ dp ∧ dp ≤ 20 ∧ (∀ s, sc s ds dp = n * 10 ^ s) ∧ Old w w'
set_option maxHeartbeats 4000000 in
set_option maxRecDepth 100000 in
theorem new_decimal (n : Nat) (h0 : 0 < n) (hn : n < 18446744073709551616) (w : World) : Calls Tryz.prog 126 #[.int .u64 (n : Nat)] w (NewDec w n) := by
  have hlen := digs_len (n := n) (k := 20) (by omega) (by decide)
  obtain ⟨L, hL⟩ : ∃ L, L = (digs n).length := ⟨_, rfl⟩
  rw [← hL] at hlen
  have HL := Lib.hid hL
  have HF := Lib.hid (fun W => format_uint n hn W)
  have hcv : ∀ W : World, ∃ c w', (convert 9 75 (.string (dstr n))).run Tryz.prog W = .ok (.slice (some ⟨W.heap.size, 0, none⟩) L c) w' ∧ Old W w' ∧ w'.heap.size = W.heap.size + 1 ∧ L ≤ c ∧ ∀ i, i < L → w'.cell? ⟨W.heap.size, i, none⟩ = some (.int .u8 (48 + ((digs n).getD i 0 : Nat))) := by
    intro W
    obtain ⟨c, w', h1, h2, h3, h4, h5⟩ := run_bytes (dstr n) W
    have e : (dstr n).size = L := by rw [dstr_len, hL]
    rw [e] at h1 h4
    refine ⟨c, w', h1, h2, h3, h4, fun i hi => ?_⟩
    rw [h5 i (by omega), (dstr_at (by omega)).1]
    rfl
  have HC := Lib.hid hcv
  obtain ⟨iv, hi, hz0, hz1, hz2⟩ := info_parts Tryz.infoByte
  have HI := Lib.hid hi
  have HZ0 := Lib.hid hz0
  have HZ1 := Lib.hid hz1
  have HZ2 := Lib.hid hz2
  have HN := Lib.hid h0
  clear hi hz0 hz1 hz2 hcv hn hL h0
  go_enter Tryz.func126, Tryz.ntmps126
  go_wp2_with (go_at_call 114; go_must (refine (HF.out _).mono ?_; rintro e w2 ⟨rfl, ho⟩; have HO2 := Lib.hid ho; obtain ⟨c3, w3, hcv, ho3, hs3, hc3, hk3⟩ := HC.out w2; have HO3 := Lib.hid ho3; have HS3 := Lib.hid hs3; have HK3 := Lib.hid hk3; have hsz2 := ho.size; clear ho ho3 hs3 hk3))
  have hb0 : Blk w3 w.heap.size #[.slice none 0 0, .int .i64 0] 201 := ((Blk.new w _ _).old HO2.out).old HO3.out
  have HB0 := Lib.hid hb0
  have hsz3 := HS3.out
  have hw3 : w.heap.size + 1 ≤ w3.heap.size := by simp at hsz2; omega
  have HW3 := Lib.hid hsz3
  clear hb0 hcv hsz2 hsz3
  go_loopg [10] L (fun gk s10 wr => ∃ k v, k + gk = L ∧ s10 = .int .i64 (k : Nat) ∧ Blk wr w.heap.size #[v, .int .i64 0] 201 ∧ wr.ownsRow w3.heap.size 5 1 v k (dcells ((digs n).take k)) ∧ Chg (fun b => b ≠ w.heap.size) w3 wr)
  case atStart => exact ⟨0, _, by simp, rfl, HB0.out, World.ownsRow_nil _ _ _ _, Chg.refl _ _⟩
  case round =>
    obtain ⟨k, v, hk, rfl, B, O, C⟩ := hrel
    obtain ⟨A, c, rfl⟩ := own_len O
    have x0 : wr.cell? ⟨w.heap.size, 0, none⟩ = some (.slice A k c) := B.cell 0
    have hlb := B.lt
    have hwr := C.size
    by_cases hlt : k < L
    · have k3 : wr.cell? ⟨w2.heap.size, k, none⟩ = some (.int .u8 (48 + ((digs n).getD k 0 : Nat))) := by
        have h := HK3.out k hlt
        rw [← h]
        exact World.cell?_of_block (w := w3) (C.block w2.heap.size (by have := HW3.out; omega) (by have := HW3.out; have := HO2.out.size; simp at this; omega))
      have hd10 : (digs n).getD k 0 < 10 := pre_digit (digs_lt n) k
      have hsn := dcells_snoc (ds := digs n) (k := k) (by rw [← HL.out]; exact hlt)
      obtain ⟨d, hd⟩ : ∃ d, d = (digs n).getD k 0 := ⟨_, rfl⟩
      rw [← hd] at k3 hd10 hsn
      have HSN := Lib.hid hsn
      have HB := Lib.hid B
      have HO := Lib.hid O
      have HC2 := Lib.hid C
      clear hd hsn B O C
      go_wp2_with (at_builtin; go_must (refine wpList_append_lies _ rfl _ _ _ rfl w3.heap.size 5 iv _ 1 1 Tryz.underlying75 HI.out HZ0.out HZ1.out HZ2.out rfl (by decide) (.slice A k c) k (dcells ((digs n).take k)) rfl (own_old HO.out ((Old.refl _).alloc _)) ⟨wr.heap.size, 0, none⟩ 1 1 [.int .u8 (48 + (d : Nat) - 48)] rfl rfl (news_blk (cs := #[.int .u8 (48 + (d : Nat) - 48)]) (Blk.new wr _ _)) (one_one rfl) (by decide) (by unfold maxLen; omega) (by omega) (by simp; omega) (wr.heap.size + 1) (by simp) ?_; intro gn cap w4 hown hgrow hat hlt4; rw [show (48 + (d : Int) - 48) = (d : Nat) by omega, HSN.out] at hown; have hne : some w.heap.size ≠ (Value.slice A k c).ownBlock := (fun e => by have := own_lt HO.out e.symm; omega); have hb4 : Blk w4 w.heap.size #[.slice A k c, .int .i64 0] 201 := (HB.out.alloc _).chg (Chg.grown (ok := fun b => some b ≠ (Value.slice A k c).ownBlock) (Chg.refl _ _) hgrow fun _ _ ho => ho) hne; have z0 : w4.cell? ⟨w.heap.size, 0, none⟩ = some (.slice A k c) := hb4.cell 0; have zf := hb4.frozen 0; have zl := hb4.lt; have HB4 := Lib.hid hb4; have HOWN := Lib.hid hown; have HC4 := Lib.hid (show Chg (fun b => b ≠ w.heap.size) w3 w4 from (HC2.out.alloc _).grown hgrow fun b hb _ e => by have := own_lt HO.out e.symm; omega); have hgn : w3.heap.size ≤ gn := (by rcases hat with hat | hat; exact (own_lt HO.out hat).1; omega); clear hown hgrow hat hb4 hne))
      go_roundg (gk - 1)
      case measure => omega
      case rel =>
        refine ⟨k + 1, .slice (some ⟨gn, 0, none⟩) (k + 1) cap, by omega, by go_num, HB4.out.set 0 _, own_chg HOWN.out ((Chg.refl (fun b => b ≠ w.heap.size) w4).setCell _ _ fun _ h => h rfl) fun b hb => ?_, HC4.out.setCell _ _ fun _ h => h rfl⟩
        have : gn = b := by simpa [Value.ownBlock] using hb
        omega
    · obtain rfl : k = L := by omega
      have HB := Lib.hid B
      have HO := Lib.hid O
      have HC2 := Lib.hid C
      have x1 : wr.cell? ⟨w.heap.size, 1, none⟩ = some (.int .i64 0) := B.cell 1
      have f1 := B.frozen 1
      clear B O C
      have hD : DecAt (wr.setCell ⟨w.heap.size, 1, none⟩ (.int .i64 (k : Nat))) w.heap.size (.slice A k c) (digs n) (k : Nat) := by
        refine ⟨HB.out.set 1 _, drow_own (base := w3.heap.size) (n := k) (own_chg ?_ ((Chg.refl (fun b => b ≠ w.heap.size) wr).setCell _ _ fun _ h => h rfl) fun b hb => ?_) HL.out (by omega)⟩
        · have := HO.out
          rw [List.take_of_length_le (by rw [← HL.out]; exact Nat.le_refl _)] at this
          exact this
        · have := own_lt HO.out hb
          omega
      have HD := Lib.hid hD
      clear hD
      go_wp2_with (go_at_call 150; go_must (refine (trim_any _ _ _ _ _ (by rw [← HL.out]; omega) HD.out).mono ?_; rintro e w5 ⟨v5, j, rfl, hj, hz, hl, hd5, hc5⟩; have HJ := Lib.hid hj; have HZ := Lib.hid hz; have HLL := Lib.hid hl; have HD5 := Lib.hid hd5; have HC5 := Lib.hid hc5; clear hj hz hl hd5 hc5))
      go_ret
      obtain ⟨h0, hcan, hsc⟩ := trimmed (digs_lt n) (digs_head HN.out) (digs_ne n) HJ.out HZ.out HLL.out
      have hd5 := HD5.out
      rw [if_neg (by omega)] at hd5
      have hold : Old (w.alloc (.cells #[.slice none 0 0, .int .i64 0] 201)) w3 := HO2.out.trans HO3.out
      refine ⟨w.heap.size, v5, _, _, rfl, Nat.le_refl _, hd5, hcan, ?_, by omega, fun s => ?_, ?_⟩
      · have := HJ.out
        rw [← HL.out] at this
        simp
        omega
      · rw [hsc s _ (by rw [← HL.out]; omega)]
        unfold sc
        rw [vald_digs, ← HL.out]
        congr 2
        omega
      · have h1 : Chg (fun b => b ≠ w.heap.size) w w5 := ((((Old.refl w).alloc _).trans hold).chg.trans HC2.out).setCell _ _ (fun _ h => h rfl) |>.trans HC5.out
        exact Chg.then_ (Chg.refl (fun _ => True) w) h1 fun b hb _ => Nat.ne_of_lt hb
end Go.Proofs.YthggnkmlnjlggaaGreatDoor
