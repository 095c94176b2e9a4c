/-
  The reference's numbers as texts: the walks of digits and figures.
  Conditions: none.
-/
import Derived.Test.YthggnkmlnjlggaaGreatDoorUint
import Derived.Test.YthggnkmlnjlggaaGreatDoorZBase
namespace Go.Proofs.YthggnkmlnjlggaaGreatDoor
open Go.RowKit

theorem rune_text : ∀ (d : Nat), d < 10 → ∀ w : World, (convert 21 9 (.int .i32 (48 + (d : Int)))).run Tryz.prog w = .ok (.string ⟨#[dsign d]⟩) w
  | 0, _, w => by kernel_rfl
  | 1, _, w => by kernel_rfl
  | 2, _, w => by kernel_rfl
  | 3, _, w => by kernel_rfl
  | 4, _, w => by kernel_rfl
  | 5, _, w => by kernel_rfl
  | 6, _, w => by kernel_rfl
  | 7, _, w => by kernel_rfl
  | 8, _, w => by kernel_rfl
  | 9, _, w => by kernel_rfl
  | d + 10, h, _ => absurd h (by omega)
def tailD (ds : List Nat) : ByteArray := ⟨(ds.map dsign).toArray⟩
theorem tailD_cons (d : Nat) (ds : List Nat) : (⟨#[dsign d]⟩ : ByteArray) ++ tailD ds = tailD (d :: ds) := by
  unfold tailD
  rw [ByteArray.mk_append_mk]
  simp
theorem tailD_size (ds : List Nat) : (tailD ds).size = ds.length := by simp [tailD, ByteArray.size]
set_option maxHeartbeats 1000000 in
set_option maxRecDepth 100000 in
theorem digits_any (n : Nat) (hn : n < 9223372036854775808) (w : World) : Calls Tryz.prog 52 #[.int .i64 (n : Nat)] w fun e w' => e = .returned (.string (dstr n)) ∧ w' = w := by
  have HR := Lib.hid (fun d hd W => rune_text d hd W)
  have HLEN := Lib.hid (digs_len (n := n) (k := 20) (by omega) (by decide))
  have HN := Lib.hid hn
  clear hn
  go_enter Tryz.func52, Tryz.ntmps52
  go_wp2
  go_loopg [0, 3] n (fun gk s0 s3 wr => ∃ ds, s0 = .int .i64 (gk : Nat) ∧ gk ≤ n ∧ s3 = .string (tailD ds) ∧ digs n = digs gk ++ ds ∧ w = wr)
  case atStart => exact ⟨[], rfl, Nat.le_refl _, rfl, by simp, rfl⟩
  case round =>
    obtain ⟨ds, rfl, hle, rfl, hds, rfl⟩ := hrel
    have hlen : ds.length ≤ 20 := by have := HLEN.out; rw [hds, List.length_append] at this; omega
    have HDS := Lib.hid hds
    have hgk : gk < 9223372036854775808 := by have := HN.out; omega
    obtain ⟨d, hd⟩ : ∃ d : Nat, d = gk % 10 := ⟨_, rfl⟩
    have hd10 : d < 10 := by omega
    have hmod : (gk : Int) % 10 = (d : Int) := by omega
    have hrt := HR.out d hd10
    have hsz := tailD_size ds
    have hadd := fun W => run_string_add_sum (P := Tryz.prog) W ⟨#[dsign d]⟩ (tailD ds) (by have : (ByteArray.mk #[dsign d]).size = 1 := rfl; omega)
    have HD := Lib.hid hd
    clear hds hd hsz
    by_cases h10 : gk < 10
    · have hdg : d = gk := by have := HD.out; omega
      subst hdg
      clear hmod
      have hno : ¬ (10 : Int) ≤ (d : Int) := by omega
      go_wp2
      go_ret
      refine ⟨?_, rfl⟩
      rw [tailD_cons]
      unfold dstr tailD
      rw [HDS.out, digs_small hd10]
      rfl
    · have hyes : (10 : Int) ≤ (gk : Int) := by omega
      go_wp2
      go_roundg (gk / 10)
      case measure => omega
      case rel =>
        exact ⟨d :: ds, by go_num, by omega, by rw [tailD_cons], by rw [HDS.out, digs_big h10, List.append_assoc, ← HD.out]; rfl, rfl⟩
/-- Half of a number as text, in amount. -/
def htext (m : Nat) : ByteArray := ⟨((digs (m / 2)).map dsign ++ [46, 53]).toArray⟩
def ptext (m : Nat) : ByteArray := if m % 2 = 0 then dstr (m / 2) else htext m
theorem htext_add (m : Nat) : dstr (m / 2) ++ (⟨#[46, 53]⟩ : ByteArray) = htext m := by
  unfold dstr htext
  rw [ByteArray.mk_append_mk]
theorem ptext_size {m : Nat} (h : m ≤ 18014398509481984) : (ptext m).size ≤ 20 := by
  have h1 := digs_len (n := m / 2) (k := 18) (by omega) (by decide)
  unfold ptext
  split
  · simp only [dstr, ByteArray.size, List.size_toArray, List.length_map]
    omega
  · simp only [htext, ByteArray.size, List.size_toArray, List.length_append, List.length_map, List.length_cons, List.length_nil]
    omega
set_option maxHeartbeats 1000000 in
set_option maxRecDepth 100000 in
theorem figures_pos (m : Nat) (hm : m ≤ 18014398509481984) (w : World) : Calls Tryz.prog 38 #[.int .i64 (m : Nat)] w fun e w' => e = .returned (.tuple #[.string (if 1000000000000000 < m / 2 then ⟨#[]⟩ else ptext m), .int .i64 (if 1000000000000000 < m / 2 then 2 else 0)]) ∧ w' = w := by
  have hq : ((m : Int).tdiv 2) = ((m / 2 : Nat) : Int) := by rw [Int.tdiv_eq_ediv_of_nonneg (by omega)]; omega
  by_cases hbig : 1000000000000000 < m / 2
  · have hb2 : (1000000000000000 : Int) < ((m / 2 : Nat) : Int) := by omega
    rw [if_pos hbig, if_pos hbig]
    go_enter Tryz.func38, Tryz.ntmps38
    go_wp2
    go_ret2
    exact ⟨rfl, rfl⟩
  · have hb2 : ¬ (1000000000000000 : Int) < ((m / 2 : Nat) : Int) := by omega
    rw [if_neg hbig, if_neg hbig]
    obtain ⟨q, hqq⟩ : ∃ q, q = m / 2 := ⟨_, rfl⟩
    have HDG := Lib.hid (fun W => digits_any q (by omega) W)
    have hsz := Lib.hid (dstr_size (n := q) (k := 17) (by omega) (by decide))
    have HH := Lib.hid (htext_add m)
    have hadd := fun W => run_string_add_sum (P := Tryz.prog) W (dstr q) ⟨#[46, 53]⟩ (by have := hsz.out; have : (ByteArray.mk #[46, 53]).size = 2 := rfl; omega)
    rw [← hqq] at hq hb2
    have HQ := Lib.hid hqq
    clear hqq hbig
    by_cases hev : m % 2 = 0
    · have hr : (m : Int) % 2 = 0 := by omega
      have HP := Lib.hid (show ptext m = dstr q by rw [HQ.out]; exact if_pos hev)
      clear hev
      go_enter Tryz.func38, Tryz.ntmps38
      go_wp2_with (go_at_call 52; go_must (refine (HDG.out _).mono ?_; rintro e w2 ⟨rfl, rfl⟩))
      go_ret2
      exact ⟨by rw [HP.out]; rfl, rfl⟩
    · have hr : (m : Int) % 2 = 1 := by omega
      have HP := Lib.hid (show ptext m = htext m from if_neg hev)
      clear hev
      go_enter Tryz.func38, Tryz.ntmps38
      go_wp2_with (go_at_call 52; go_must (refine (HDG.out _).mono ?_; rintro e w2 ⟨rfl, rfl⟩))
      go_ret2
      exact ⟨by rw [HP.out, ← HH.out, ← HQ.out]; rfl, rfl⟩
/-- A number as text. -/
def ntext (h : Int) : ByteArray := (if h < 0 then ⟨#[45]⟩ else ⟨#[]⟩) ++ ptext h.natAbs
/-- What the reference says of a number. -/
def FigAns (h : Int) (w : World) (e : Ending) (w' : World) : Prop := ∃ s how, e = .returned (.tuple #[.string s, .int .i64 how]) ∧ (how = 0 ∧ s = ntext h ∨ how = 2) ∧ w' = w ∧ s.size ≤ 22
set_option maxHeartbeats 1000000 in
set_option maxRecDepth 100000 in
theorem figures_any (h : Int) (hb : -18014398509481984 ≤ h ∧ h ≤ 18014398509481984) (w : World) : Calls Tryz.prog 38 #[.int .i64 h] w (FigAns h w) := by
  have hp := fun W => figures_pos h.natAbs (by omega) W
  by_cases hn : h < 0
  · have hneg : IntKind.i64.wrap (-h) = (h.natAbs : Int) := (IntWalk.i64_in _ (by omega)).trans (by omega)
    obtain ⟨s, how, hs, hh, hsz⟩ : ∃ s how, s = (if 1000000000000000 < h.natAbs / 2 then (⟨#[]⟩ : ByteArray) else ptext h.natAbs) ∧ how = (if 1000000000000000 < h.natAbs / 2 then (2 : Int) else 0) ∧ s.size ≤ 20 := by
      refine ⟨_, _, rfl, rfl, ?_⟩
      split
      · simp [ByteArray.size]
      · exact ptext_size (by omega)
    rw [← hs, ← hh] at hp
    have HP := Lib.hid hp
    have hadd := fun W => run_string_add_sum (P := Tryz.prog) W ⟨#[45]⟩ s (by have : (ByteArray.mk #[45]).size = 1 := rfl; omega)
    have HA : how = 0 ∧ (⟨#[45]⟩ : ByteArray) ++ s = ntext h ∨ how = 2 := by
      by_cases hbig : 1000000000000000 < h.natAbs / 2
      · rw [if_pos hbig] at hh
        exact .inr hh
      · rw [if_neg hbig] at hh hs
        refine .inl ⟨hh, ?_⟩
        unfold ntext
        rw [if_pos hn, hs]
    have HAA := Lib.hid HA
    have HSZ := Lib.hid (show ((⟨#[45]⟩ : ByteArray) ++ s).size ≤ 22 by rw [ByteArray.size_append]; have h1 : (ByteArray.mk #[45]).size = 1 := rfl; omega)
    obtain ⟨h1, h2⟩ := hb
    clear hs hh HA hp hsz
    go_enter Tryz.func38, Tryz.ntmps38
    go_wp2_with (go_at_call 38; go_must (refine (HP.out _).mono ?_; rintro e w2 ⟨rfl, rfl⟩))
    go_ret2
    exact ⟨_, _, rfl, HAA.out, rfl, HSZ.out⟩
  · have e : (h.natAbs : Int) = h := by omega
    rw [e] at hp
    have hps := ptext_size (m := h.natAbs) (by omega)
    refine (hp w).mono fun e w' ⟨he, hw⟩ => ⟨_, _, he, ?_, hw, by split <;> first | omega | simp [ByteArray.size]⟩
    by_cases hbig : 1000000000000000 < h.natAbs / 2
    · exact .inr (if_pos hbig)
    · refine .inl ⟨if_neg hbig, ?_⟩
      unfold ntext
      rw [if_neg hbig, if_neg hn]
      exact ByteArray.empty_append.symm
end Go.Proofs.YthggnkmlnjlggaaGreatDoor
namespace Go.Proofs.YthggnkmlnjlggaaGreatDoor
open Go.RowKit

def nullS : ByteArray := ⟨#[110, 117, 108, 108]⟩
def trueS : ByteArray := ⟨#[116, 114, 117, 101]⟩
def falseS : ByteArray := ⟨#[102, 97, 108, 115, 101]⟩
/-- The text of a plain value, as JSON, but a text as it is. -/
def plainT (v : V) : ByteArray := if v.kind = 0 then nullS else if v.kind = 1 then falseS else if v.kind = 2 then trueS else if v.kind = 3 then ntext v.half else v.text
/-- What the reference says of a plain value. -/
def PlainAns (s0 : ByteArray) (w : World) (e : Ending) (w' : World) : Prop := ∃ s how, e = .returned (.tuple #[.string s, .int .i64 how]) ∧ (how = 0 ∧ s = s0 ∨ how = 2) ∧ Old w w'
set_option maxHeartbeats 2000000 in
set_option maxRecDepth 100000 in
theorem json_plain {v : V} (hg : Good v) (hk : v.kind ≤ 3) (w : World) (ok : Nat → Prop) (c0 c1 c2 c3 c4 c5 : Value) (hc : KV w ok v [c0, c1, c2, c3, c4, c5]) :
    Calls Tryz.prog 23 #[.agg #[c0, c1, c2, c3, c4, c5]] w (PlainAns (plainT v) w) := by
  obtain ⟨A1, n1, m1, A2, n2, m2, A3, n3, m3, rfl, rfl, rfl, rfl, rfl, rfl⟩ := shape hc
  have h0 : 0 ≤ v.kind ∧ (-18014398509481984 ≤ v.half ∧ v.half ≤ 18014398509481984) := by
    cases hg with
    | mk k h t l ks vs k0 k6 hk tk lk kk kv hh ht hl hv hks hkt gl gv => exact ⟨k0, hh.1, hh.2.1⟩
  have HP := Lib.hid (show plainT v = _ from rfl)
  obtain ⟨kd, hkd⟩ : ∃ x, x = v.kind := ⟨_, rfl⟩
  obtain ⟨hf, hhf⟩ : ∃ x, x = v.half := ⟨_, rfl⟩
  obtain ⟨tx, htx⟩ : ∃ x, x = v.text := ⟨_, rfl⟩
  obtain ⟨pt, hpt⟩ : ∃ x, x = plainT v := ⟨_, rfl⟩
  unfold plainT at hpt
  rw [← hkd, ← hhf, ← htx] at hpt
  rw [← hkd] at hk h0
  rw [← hhf] at h0
  have hpt2 : pt = plainT v := by unfold plainT; rw [← hkd, ← hhf, ← htx]; exact hpt
  rw [← hpt2, ← hkd, ← hhf, ← htx]
  have HPT := Lib.hid hpt
  have HF := Lib.hid (fun W => figures_any hf h0.2 W)
  clear hpt hpt2 hkd hhf htx HP hc hg
  obtain ⟨h0, _⟩ := h0
  rcases (show kd = 0 ∨ kd = 1 ∨ kd = 2 ∨ kd = 3 by omega) with rfl | rfl | rfl | rfl
  all_goals
    clear h0 hk
    go_enter Tryz.func23, Tryz.ntmps23
    go_wp2_with (go_at_call 38; go_must (refine (HF.out _).mono ?_; rintro e w2 ⟨s, how, rfl, hs, rfl, _⟩; have HS := Lib.hid hs; clear hs))
    go_ret2
  · exact ⟨_, _, rfl, .inl ⟨rfl, by rw [HPT.out]; rfl⟩, (Old.refl w).alloc _⟩
  · exact ⟨_, _, rfl, .inl ⟨rfl, by rw [HPT.out]; rfl⟩, (Old.refl w).alloc _⟩
  · exact ⟨_, _, rfl, .inl ⟨rfl, by rw [HPT.out]; rfl⟩, (Old.refl w).alloc _⟩
  · exact ⟨_, _, rfl, by rw [HPT.out]; exact HS.out, (Old.refl w).alloc _⟩
set_option maxHeartbeats 2000000 in
set_option maxRecDepth 100000 in
theorem string_plain {v : V} (hg : Good v) (hk : v.kind ≤ 4) (w : World) (ok : Nat → Prop) (c0 c1 c2 c3 c4 c5 : Value) (hc : KV w ok v [c0, c1, c2, c3, c4, c5]) :
    Calls Tryz.prog 20 #[.agg #[c0, c1, c2, c3, c4, c5]] w (PlainAns (plainT v) w) := by
  obtain ⟨A1, n1, m1, A2, n2, m2, A3, n3, m3, rfl, rfl, rfl, rfl, rfl, rfl⟩ := shape hc
  obtain ⟨kd, hkd⟩ : ∃ x, x = v.kind := ⟨_, rfl⟩
  obtain ⟨hf, hhf⟩ : ∃ x, x = v.half := ⟨_, rfl⟩
  obtain ⟨tx, htx⟩ : ∃ x, x = v.text := ⟨_, rfl⟩
  rw [← hkd, ← hhf, ← htx] at hc ⊢
  rw [← hkd] at hk
  by_cases h4 : kd = 4
  · subst h4
    have HP := Lib.hid (show plainT v = tx by unfold plainT; rw [← hkd, ← htx]; rfl)
    clear hkd hhf htx hc hg hk
    go_enter Tryz.func20, Tryz.ntmps20
    go_wp2
    go_ret2
    exact ⟨_, _, rfl, .inl ⟨rfl, HP.out.symm⟩, (Old.refl w).alloc _⟩
  · have hne : (kd == 4) = false := by simpa using h4
    have HJ := Lib.hid (json_plain hg (by omega) _ ok _ _ _ _ _ _ (hc.old ((Old.refl w).alloc (.cells #[.int .i64 kd, .int .i64 hf, .string tx, .slice A1 n1 m1, .slice A2 n2 m2, .slice A3 n3 m3] 26))))
    clear hkd hhf htx hc hg hk
    go_enter Tryz.func20, Tryz.ntmps20
    go_wp2_with (go_at_call 23; go_must (refine HJ.out.mono ?_; rintro e w2 ⟨s, how, rfl, hs, ho⟩; have HS := Lib.hid hs; have HO := Lib.hid ho; clear hs ho))
    go_ret2
    exact ⟨_, _, rfl, HS.out, ((Old.refl w).alloc _).trans HO.out⟩
/-- The text of what stands in a row. -/
def bareT (v : V) : ByteArray := if v.kind = 0 then nilS else plainT v
def BareAns (v : V) (w : World) (e : Ending) (w' : World) : Prop := ∃ s how, e = .returned (.tuple #[.string s, .int .i64 how]) ∧ (how = 0 ∧ v.kind ≤ 4 ∧ s = bareT v ∨ how = 1 ∧ 5 ≤ v.kind ∨ how = 2 ∧ v.kind ≤ 4) ∧ Old w w'
set_option maxHeartbeats 2000000 in
set_option maxRecDepth 100000 in
theorem bare_any {v : V} (hg : Good v) (w : World) (ok : Nat → Prop) (c0 c1 c2 c3 c4 c5 : Value) (hc : KV w ok v [c0, c1, c2, c3, c4, c5]) :
    Calls Tryz.prog 40 #[.agg #[c0, c1, c2, c3, c4, c5]] w (BareAns v w) := by
  obtain ⟨A1, n1, m1, A2, n2, m2, A3, n3, m3, rfl, rfl, rfl, rfl, rfl, rfl⟩ := shape hc
  have h0 : 0 ≤ v.kind ∧ v.kind ≤ 6 := by
    cases hg with
    | mk k h t l ks vs k0 k6 hk tk lk kk kv hh ht hl hv hks hkt gl gv => exact ⟨k0, k6⟩
  obtain ⟨kd, hkd⟩ : ∃ x, x = v.kind := ⟨_, rfl⟩
  obtain ⟨hf, hhf⟩ : ∃ x, x = v.half := ⟨_, rfl⟩
  obtain ⟨tx, htx⟩ : ∃ x, x = v.text := ⟨_, rfl⟩
  have KD := Lib.hid hkd
  rw [← hkd, ← hhf, ← htx] at hc ⊢
  rw [← hkd] at h0
  by_cases h56 : kd = 5 ∨ kd = 6
  · rcases h56 with rfl | rfl
    all_goals
      clear hkd hhf htx hc hg h0
      go_enter Tryz.func40, Tryz.ntmps40
      go_wp2
      go_ret2
      exact ⟨_, _, rfl, .inr (.inl ⟨rfl, by rw [← KD.out]; decide⟩), (Old.refl w).alloc _⟩
  · by_cases hz : kd = 0
    · subst hz
      clear hkd hhf htx hc hg h0 h56
      go_enter Tryz.func40, Tryz.ntmps40
      go_wp2
      go_ret2
      exact ⟨_, _, rfl, .inl ⟨rfl, by rw [← KD.out]; decide, by unfold bareT; rw [← KD.out]; rfl⟩, (Old.refl w).alloc _⟩
    · have hn5 : (kd == 5) = false := by simp; omega
      have hn6 : (kd == 6) = false := by simp; omega
      have hn0 : (kd == 0) = false := by simpa using hz
      have HB := Lib.hid (show v.kind ≤ 4 ∧ bareT v = plainT v from ⟨by rw [← hkd]; omega, by unfold bareT; rw [← hkd, if_neg hz]⟩)
      have HJ := Lib.hid (string_plain hg (by rw [← hkd]; omega) _ ok _ _ _ _ _ _ (hc.old ((Old.refl w).alloc (.cells #[.int .i64 kd, .int .i64 hf, .string tx, .slice A1 n1 m1, .slice A2 n2 m2, .slice A3 n3 m3] 26))))
      clear hkd hhf htx hc hg h0 h56
      go_enter Tryz.func40, Tryz.ntmps40
      go_wp2_with (go_at_call 20; go_must (refine HJ.out.mono ?_; rintro e w2 ⟨s, how, rfl, hs, ho⟩; have HS := Lib.hid hs; have HO := Lib.hid ho; clear hs ho))
      go_ret2
      refine ⟨_, _, rfl, ?_, ((Old.refl w).alloc _).trans HO.out⟩
      rcases HS.out with ⟨h1, h2⟩ | h1
      · exact .inl ⟨h1, HB.out.1, h2.trans HB.out.2.symm⟩
      · exact .inr (.inr ⟨h1, HB.out.1⟩)
theorem index_at (s : ByteArray) (k : Nat) (hk : k < s.size) (w : World) : (Instr.index 9 (.string s) (.int .i64 (k : Nat))).run Tryz.prog w = .ok (.int .u8 ((s.data.toList.getD k 0).toNat : Int)) w := by
  rw [run_index_string w 9 s .i64 (k : Nat) Tryz.underlying9, dif_pos (by omega)]
  congr 3
  have h2 : k < s.data.toList.length := by simpa using hk
  rw [List.getD_eq_getElem?_getD, List.getElem?_eq_getElem h2]
  rfl
end Go.Proofs.YthggnkmlnjlggaaGreatDoor
