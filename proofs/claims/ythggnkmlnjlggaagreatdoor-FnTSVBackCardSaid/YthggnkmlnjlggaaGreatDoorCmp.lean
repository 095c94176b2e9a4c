/-
  Two decimals are compared: the walk of cmp, where the first one is the greater one.
  Conditions: none.
-/
import Derived.Test.YthggnkmlnjlggaaGreatDoorUp
namespace Go.Proofs.YthggnkmlnjlggaaGreatDoor
open Go.RowKit
attribute [local go_sem ↓] Go.wp_at_zero Go.wp_at_succ

theorem cmp_apart {s : Nat} {a b : List Nat} {p : Int} (ha : Canon a) (hb : Canon b) (hs : (2 * (a.length + b.length) + 2 : Int) ≤ p + s) (h : sc s b p < sc s a p) : ∃ i, (i < a.length ∨ i < b.length) ∧ (∀ j, j < i → a.getD j 0 = b.getD j 0) ∧ b.getD i 0 < a.getD i 0 := by
  have key : ∀ n, (∀ j, j < n → a.getD j 0 = b.getD j 0) ∨ ∃ i, i < n ∧ (∀ j, j < i → a.getD j 0 = b.getD j 0) ∧ a.getD i 0 ≠ b.getD i 0 := by
    intro n
    induction n with
    | zero => exact .inl fun j hj => absurd hj (by omega)
    | succ n ih =>
      rcases ih with ih | ⟨i, h1, h2, h3⟩
      · by_cases hq : a.getD n 0 = b.getD n 0
        · left
          intro j hj
          rcases Nat.lt_succ_iff_lt_or_eq.1 hj with hj | rfl
          · exact ih j hj
          · exact hq
        · exact .inr ⟨n, by omega, ih, hq⟩
      · exact .inr ⟨i, by omega, h2, h3⟩
  rcases key (a.length + b.length) with hk | ⟨i, h1, h2, h3⟩
  · have := cmp_all (s := s) (a := a) (b := b) (dp := p) (by omega) fun j hj => hk j (by omega)
    omega
  · refine ⟨i, ?_, h2, cmp_at ha.lt hb.lt (by omega) h h2 h3⟩
    apply Decidable.byContradiction
    intro hn
    apply h3
    simp [List.getD_eq_getElem?_getD, List.getElem?_eq_none (by omega : a.length ≤ i), List.getElem?_eq_none (by omega : b.length ≤ i)]
/-- The first one is the greater one. -/
def CmpAns (w : World) (e : Ending) (w' : World) : Prop := ∃ z : Int, 1 ≤ z ∧ e = .returned (.int .i64 z) ∧ Old w w'
set_option maxHeartbeats 4000000 in
set_option maxRecDepth 100000 in
theorem cmp_dp (w : World) (ga gb : Nat) (va vb : Value) (a b : List Nat) (pa pb : Int) (ha : DecAt w ga va a pa) (hb : DecAt w gb vb b pb) (la : 1 ≤ a.length ∧ a.length ≤ 1000) (lb : b.length ≤ 1000) (p1 : -1000 ≤ pa ∧ pa ≤ 1000) (p2 : b.length = 0 ∨ -1000 ≤ pb ∧ pb ≤ 1000)
    (h : b.length = 0 ∨ pb < pa) : Calls Tryz.prog 155 #[.pointer (some ⟨ga, 0, none⟩), .pointer (some ⟨gb, 0, none⟩)] w (CmpAns w) := by
  obtain ⟨A, ca, rfl, _⟩ := ha.row.len
  obtain ⟨B, cb, rfl, _⟩ := hb.row.len
  have x0 : w.cell? ⟨ga, 0, none⟩ = some (.slice A a.length ca) := ha.blk.cell 0
  have x1 : w.cell? ⟨ga, 1, none⟩ = some (.int .i64 pa) := ha.blk.cell 1
  have y0 : w.cell? ⟨gb, 0, none⟩ = some (.slice B b.length cb) := hb.blk.cell 0
  have y1 : w.cell? ⟨gb, 1, none⟩ = some (.int .i64 pb) := hb.blk.cell 1
  clear ha hb
  obtain ⟨la1, la2⟩ := la
  have d1' : a ≠ [] := by rintro rfl; simp at la1
  have d1 : (((a.length : Nat) : Int) == 0) = false := by simpa using d1'
  rcases Nat.eq_zero_or_pos b.length with hz | hz
  · have s1 : IntKind.i64.wrap ((a.length : Int)) = (a.length : Int) := IntWalk.i64_in _ (by omega)
    have hbe : b = [] := List.eq_nil_of_length_eq_zero hz
    subst hbe
    simp only [List.length_nil] at y0
    go_enter Tryz.func155, Tryz.ntmps155
    go_upto_region 2 with (fail)
    go_quiet (fail)
    go_wp2
    go_ret
    refine ⟨(a.length : Int), by omega, ?_, (Old.refl w).drewN _⟩
    first | rfl | (simp; try omega)
  · have hlt : pb < pa := by omega
    have s1 : IntKind.i64.wrap (pa - pb) = pa - pb := IntWalk.i64_in _ (by omega)
    have d2' : b ≠ [] := by rintro rfl; simp at hz
    have d2 : (((b.length : Nat) : Int) == 0) = false := by simpa using d2'
    have d3 : decide (pa = pb) = false := by simp; omega
    have d4 : ¬ (pa = pb) := by omega
    clear h
    go_enter Tryz.func155, Tryz.ntmps155
    go_upto_region 3 with (fail)
    go_quiet (fail)
    have hO : Old w (w.drewN nq) := (Old.refl w).drewN nq
    have x1a := hO.cell x1
    have y1a := hO.cell y1
    have HO := Lib.hid hO
    clear x1 y1 x0 y0 hO
    generalize w.drewN nq = wq at *
    go_upto_region 4 with (fail)
    go_quiet (fail)
    go_wp2
    go_ret
    exact ⟨pa - pb, by omega, rfl, HO.out.drewN _⟩
set_option maxHeartbeats 4000000 in
set_option maxRecDepth 100000 in
theorem cmp_digits (w : World) (ga gb : Nat) (va vb : Value) (a b : List Nat) (p : Int) (ha : DecAt w ga va a p) (hb : DecAt w gb vb b p) (la : 1 ≤ a.length ∧ a.length ≤ 1000) (lb : 1 ≤ b.length ∧ b.length ≤ 1000) (ca : ∀ d ∈ a, d < 10) (cb : ∀ d ∈ b, d < 10)
    (i0 : Nat) (hi0 : i0 < a.length ∨ i0 < b.length) (hsame : ∀ j, j < i0 → a.getD j 0 = b.getD j 0) (hlt : b.getD i0 0 < a.getD i0 0) :
    Calls Tryz.prog 155 #[.pointer (some ⟨ga, 0, none⟩), .pointer (some ⟨gb, 0, none⟩)] w (CmpAns w) := by
  obtain ⟨A, na, rfl, _⟩ := ha.row.len
  obtain ⟨B, nb, rfl, _⟩ := hb.row.len
  have x0 : w.cell? ⟨ga, 0, none⟩ = some (.slice A a.length na) := ha.blk.cell 0
  have x1 : w.cell? ⟨ga, 1, none⟩ = some (.int .i64 p) := ha.blk.cell 1
  have y0 : w.cell? ⟨gb, 0, none⟩ = some (.slice B b.length nb) := hb.blk.cell 0
  have y1 : w.cell? ⟨gb, 1, none⟩ = some (.int .i64 p) := hb.blk.cell 1
  obtain ⟨la1, la2⟩ := la
  obtain ⟨lb1, lb2⟩ := lb
  have d1' : a ≠ [] := by rintro rfl; simp at la1
  have d2' : b ≠ [] := by rintro rfl; simp at lb1
  have d1 : (((a.length : Nat) : Int) == 0) = false := by simpa using d1'
  have d2 : (((b.length : Nat) : Int) == 0) = false := by simpa using d2'
  have HA := Lib.hid ha
  have HB := Lib.hid hb
  have HS := Lib.hid hsame
  have HL := Lib.hid hlt
  have HCA := Lib.hid ca
  have HCB := Lib.hid cb
  clear ha hb hsame hlt ca cb
  go_enter Tryz.func155, Tryz.ntmps155
  go_upto_region 3 with (fail)
  go_quiet (fail)
  have hO : Old w (w.drewN nq) := (Old.refl w).drewN nq
  have x0a := hO.cell x0
  have y0a := hO.cell y0
  have HO := Lib.hid hO
  have HA2 := Lib.hid (HA.out.old hO)
  have HB2 := Lib.hid (HB.out.old hO)
  clear x1 y1 x0 y0 hO HA HB
  generalize w.drewN nq = wq at *
  go_wp2
  go_loopg [5] i0 (fun gk s5 wr => ∃ i, i + gk = i0 ∧ s5 = .int .i64 (i : Nat) ∧ wq = wr)
  case atStart => exact ⟨0, by omega, by go_num, rfl⟩
  case round =>
    obtain ⟨i, hi, rfl, rfl⟩ := hrel
    obtain ⟨x, hx⟩ : ∃ x, x = a.getD i 0 := ⟨_, rfl⟩
    obtain ⟨y, hy⟩ : ∃ y, y = b.getD i 0 := ⟨_, rfl⟩
    have hda := digit_any wq ga _ a p HA2.out i
    rw [← hx] at hda
    have hdb := digit_any wq gb _ b p HB2.out i
    rw [← hy] at hdb
    have HDA := Lib.hid hda
    have HDB := Lib.hid hdb
    have hx10 := pre_digit HCA.out i
    have hy10 := pre_digit HCB.out i
    rw [← hx] at hx10
    rw [← hy] at hy10
    clear hda hdb
    by_cases hgk : gk = 0
    · have hii : i = i0 := by omega
      subst hii
      have hlt := HL.out
      rw [← hx, ← hy] at hlt
      clear hx hy
      have e1 : (x : Int) ≠ (y : Int) := by omega
      have e2 : decide ((x : Int) = (y : Int)) = false := by simp; omega
      have e3 : x ≠ y := by omega
      have s1 : IntKind.i64.wrap (x : Int) = (x : Int) := IntWalk.i64_in _ (by omega)
      have s2 : IntKind.i64.wrap (y : Int) = (y : Int) := IntWalk.i64_in _ (by omega)
      have s3 : IntKind.i64.wrap ((x : Int) - (y : Int)) = (x : Int) - (y : Int) := IntWalk.i64_in _ (by omega)
      have HF := Lib.hid hlt
      clear hlt
      by_cases hia : i < a.length
      · have f1 : decide ((i : Int) < (a.length : Int)) = true := by simp; omega
        go_wp2_with (go_at_call 157; go_must (first | (with_reducible refine HDA.out.mono ?_; rintro e w5 ⟨rfl, rfl⟩) | (with_reducible refine HDB.out.mono ?_; rintro e w5 ⟨rfl, rfl⟩)))
        go_ret
        exact ⟨(x : Int) - (y : Int), by have := HF.out; omega, rfl, HO.out⟩
      · have hib : i < b.length := by omega
        have f1 : decide ((i : Int) < (a.length : Int)) = false := by simp; omega
        have f2 : decide ((i : Int) < (b.length : Int)) = true := by simp; omega
        go_wp2_with (go_at_call 157; go_must (first | (with_reducible refine HDA.out.mono ?_; rintro e w5 ⟨rfl, rfl⟩) | (with_reducible refine HDB.out.mono ?_; rintro e w5 ⟨rfl, rfl⟩)))
        go_ret
        exact ⟨(x : Int) - (y : Int), by have := HF.out; omega, rfl, HO.out⟩
    · have hxy : x = y := by
        rw [hx, hy]
        exact HS.out i (by omega)
      subst hxy
      clear hx hy
      have s1 : IntKind.i64.wrap ((i : Int) + 1) = (i : Int) + 1 := IntWalk.i64_in _ (by omega)
      by_cases hia : i < a.length
      · have f1 : decide ((i : Int) < (a.length : Int)) = true := by simp; omega
        go_wp2_with (go_at_call 157; go_must (first | (with_reducible refine HDA.out.mono ?_; rintro e w5 ⟨rfl, rfl⟩) | (with_reducible refine HDB.out.mono ?_; rintro e w5 ⟨rfl, rfl⟩)))
        go_roundg (gk - 1)
        case measure => omega
        case rel => exact ⟨i + 1, by omega, by go_num, rfl⟩
      · have hib : i < b.length := by omega
        have f1 : decide ((i : Int) < (a.length : Int)) = false := by simp; omega
        have f2 : decide ((i : Int) < (b.length : Int)) = true := by simp; omega
        go_wp2_with (go_at_call 157; go_must (first | (with_reducible refine HDA.out.mono ?_; rintro e w5 ⟨rfl, rfl⟩) | (with_reducible refine HDB.out.mono ?_; rintro e w5 ⟨rfl, rfl⟩)))
        go_roundg (gk - 1)
        case measure => omega
        case rel => exact ⟨i + 1, by omega, by go_num, rfl⟩
/-- Where the first one is the greater one. -/
theorem dcmp_any (w : World) (ga gb : Nat) (va vb : Value) (a b : List Nat) (pa pb : Int) (ha : DecAt w ga va a pa) (hb : DecAt w gb vb b pb) (ca : Canon a) (la : a.length ≤ 300) (lb : b.length ≤ 300) (p1 : -1000 ≤ pa ∧ pa ≤ 1000) (p2 : b = [] ∨ -1000 ≤ pb ∧ pb ≤ 1000)
    (h : b = [] ∨ Canon b ∧ ∃ s : Nat, 3000 ≤ s ∧ sc s b pb < sc s a pa) : Calls Tryz.prog 155 #[.pointer (some ⟨ga, 0, none⟩), .pointer (some ⟨gb, 0, none⟩)] w (CmpAns w) := by
  have hp := ca.pos
  rcases h with rfl | ⟨cb, s, hs, h⟩
  · exact cmp_dp w ga gb va vb a [] pa pb ha hb ⟨hp, by omega⟩ (by simp) p1 (.inl rfl) (.inl rfl)
  · have hpb := cb.pos
    have p2 : -1000 ≤ pb ∧ pb ≤ 1000 := by
      rcases p2 with rfl | p2
      · simp at hpb
      · exact p2
    have hle := dp_le ca cb (by omega) (by omega) h
    rcases Int.lt_or_eq_of_le hle with hlt | rfl
    · exact cmp_dp w ga gb va vb a b pa pb ha hb ⟨hp, by omega⟩ (by omega) p1 (.inr p2) (.inr hlt)
    · obtain ⟨i, h1, h2, h3⟩ := cmp_apart ca cb (by omega) h
      exact cmp_digits w ga gb va vb a b pb ha hb ⟨hp, by omega⟩ ⟨hpb, by omega⟩ ca.lt cb.lt i h1 h2 h3
end Go.Proofs.YthggnkmlnjlggaaGreatDoor
