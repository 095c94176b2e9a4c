/-
  The shortest decimal of half of an odd number: the walk of short.
  Conditions: none.
-/
import Derived.Test.YthggnkmlnjlggaaGreatDoorCmp
namespace Go.Proofs.YthggnkmlnjlggaaGreatDoor
open Go.RowKit
attribute [local go_sem ↓] Go.wp_at_zero Go.wp_at_succ

theorem pre_rest {l : List Nat} (hl : ∀ d ∈ l, d < 10) (n : Nat) : ∀ j, ∃ r, r < 10 ^ j ∧ pre l (n + j) = pre l n * 10 ^ j + r
  | 0 => ⟨0, by simp, by simp⟩
  | j + 1 => by
    obtain ⟨r, h1, h2⟩ := pre_rest hl n j
    have h3 := pre_digit hl (n + j)
    refine ⟨10 * r + l.getD (n + j) 0, by rw [Nat.pow_succ]; omega, ?_⟩
    rw [← Nat.add_assoc, pre, h2, Nat.pow_succ, Nat.mul_add, Nat.mul_left_comm, Nat.mul_comm 10 (10 ^ j), Nat.add_assoc]
theorem half_round {h n : Nat} (ho : h % 2 = 1) (hn : n < (digs (5 * h)).length) : pre (digs (5 * h)) n * 10 ^ ((digs (5 * h)).length - n) + 5 ≤ 5 * h ∧ 5 * h + 5 ≤ (pre (digs (5 * h)) n + 1) * 10 ^ ((digs (5 * h)).length - n) := by
  obtain ⟨j, hj⟩ : ∃ j, (digs (5 * h)).length = n + (j + 1) := ⟨(digs (5 * h)).length - n - 1, by omega⟩
  obtain ⟨r, h1, h2⟩ := pre_rest (digs_lt (5 * h)) n (j + 1)
  have h3 := pre_all (digs (5 * h))
  rw [vald_digs, hj, h2] at h3
  rw [hj, Nat.add_sub_cancel_left, Nat.add_mul]
  rw [Nat.pow_succ] at *
  generalize 10 ^ j = X at *
  rw [← Nat.mul_assoc] at *
  generalize pre (digs (5 * h)) n * X = Y at *
  omega
theorem low_near {S T N h P : Nat} (hS : S * P = N * (10 * T)) (hN : 2 * N + 2 = h * P) (hT : 0 < T) (hP : 4 ≤ P) : 5 * h * T < S + 5 * T := by
  refine Nat.lt_of_mul_lt_mul_right (a := P) ?_
  have e : 5 * h * T * P = 5 * T * (h * P) := by simp only [Nat.mul_assoc, Nat.mul_left_comm, Nat.mul_comm]
  rw [e, ← hN, Nat.add_mul, hS]
  have h1 : 5 * T * 4 ≤ 5 * T * P := Nat.mul_le_mul_left _ hP
  have e2 : 5 * T * (2 * N + 2) = N * (10 * T) + 10 * T := by
    rw [Nat.mul_add, show 5 * T * (2 * N) = N * (10 * T) by rw [Nat.mul_comm, Nat.mul_assoc, Nat.mul_left_comm, ← Nat.mul_assoc 2 5 T]]
    omega
  rw [e2]
  omega
theorem high_near {S T N h P : Nat} (hS : S * P = N * (10 * T)) (hN : 2 * N = h * P + 2) (hT : 0 < T) (hP : 4 ≤ P) : S < 5 * h * T + 5 * T := by
  refine Nat.lt_of_mul_lt_mul_right (a := P) ?_
  have e : 5 * h * T * P = 5 * T * (h * P) := by simp only [Nat.mul_assoc, Nat.mul_left_comm, Nat.mul_comm]
  rw [Nat.add_mul, e, hS]
  have h1 : 5 * T * 4 ≤ 5 * T * P := Nat.mul_le_mul_left _ hP
  have e2 : N * (10 * T) = 5 * T * (h * P) + 10 * T := by
    have e3 : 5 * T * (2 * N) = N * (10 * T) := by rw [Nat.mul_comm (5 * T), Nat.mul_comm 2 N, Nat.mul_assoc N 2, ← Nat.mul_assoc 2 5 T]
    rw [← e3, hN, Nat.mul_add]
    omega
  rw [e2]
  omega
/-- A decimal a little below, a little above the half. -/
structure LowDec (h : Nat) (d : List Nat) (p : Int) : Prop where
  can : Canon d
  len : d.length ≤ 100
  at_ : -20 ≤ p ∧ p ≤ 20
  near : ∀ s : Nat, 200 ≤ s → 5 * h * 10 ^ (s - 1) < sc s d p + 5 * 10 ^ (s - 1)
structure HighDec (h : Nat) (d : List Nat) (p : Int) : Prop where
  can : Canon d
  len : d.length ≤ 100
  at_ : -20 ≤ p ∧ p ≤ 20
  near : ∀ s : Nat, 200 ≤ s → sc s d p < 5 * h * 10 ^ (s - 1) + 5 * 10 ^ (s - 1)
theorem pow_four {k : Nat} (hk : 2 ≤ k) : 4 ≤ 2 ^ k := by
  have := Nat.pow_le_pow_right (show 0 < 2 by decide) hk
  simpa using this
theorem low_dec {h N k : Nat} {d d' : List Nat} {p p' : Int} (hk : 2 ≤ k) (hN : 2 * N + 2 = h * 2 ^ k) (h0 : ∀ s, sc s d p = N * 10 ^ s) (hl : (d.length : Int) ≤ p) (hp : p ≤ 20) (hc : Canon d') (hlen : d'.length ≤ 100) (h1 : p - 20 ≤ p') (h2 : p' ≤ p) (h3 : ∀ s : Nat, 200 ≤ s → sc s d' p' * 2 ^ k = sc s d p) : LowDec h d' p' :=
  ⟨hc, hlen, by omega, fun s hs => low_near (P := 2 ^ k) (N := N) (by rw [h3 s hs, h0, Nat.mul_comm 10, ← Nat.pow_succ, Nat.succ_eq_add_one, Nat.sub_add_cancel (by omega)]) hN (Nat.pow_pos (by decide)) (pow_four hk)⟩
theorem high_dec {h N k : Nat} {d d' : List Nat} {p p' : Int} (hk : 2 ≤ k) (hN : 2 * N = h * 2 ^ k + 2) (h0 : ∀ s, sc s d p = N * 10 ^ s) (hl : (d.length : Int) ≤ p) (hp : p ≤ 20) (hc : Canon d') (hlen : d'.length ≤ 100) (h1 : p - 20 ≤ p') (h2 : p' ≤ p) (h3 : ∀ s : Nat, 200 ≤ s → sc s d' p' * 2 ^ k = sc s d p) : HighDec h d' p' :=
  ⟨hc, hlen, by omega, fun s hs => high_near (P := 2 ^ k) (N := N) (by rw [h3 s hs, h0, Nat.mul_comm 10, ← Nat.pow_succ, Nat.succ_eq_add_one, Nat.sub_add_cancel (by omega)]) hN (Nat.pow_pos (by decide)) (pow_four hk)⟩
theorem half_canon {h : Nat} (ho : h % 2 = 1) : Canon (digs (5 * h)) := ⟨digs_lt _, digs_head (by omega), by rw [vald_digs]; omega⟩
theorem below_low {h n : Nat} {dd ld : List Nat} {pd pl : Int} (ho : h % 2 = 1) (hn : n < (digs (5 * h)).length) (hlen : (digs (5 * h)).length ≤ 100) (hL : LowDec h ld pl)
    (hd : n = 0 ∧ dd = [] ∨ 0 < n ∧ Canon dd ∧ dd.length ≤ n ∧ pd = ((digs (5 * h)).length : Int) - 1 ∧ ∀ s : Nat, (n : Int) ≤ ((digs (5 * h)).length : Int) - 1 + s → sc s dd (((digs (5 * h)).length : Int) - 1) = sc s ((digs (5 * h)).take n) (((digs (5 * h)).length : Int) - 1)) :
    dd.length ≤ 100 ∧ (dd = [] ∨ -1000 ≤ pd ∧ pd ≤ 1000) ∧ (dd = [] ∨ Canon dd ∧ ∃ s : Nat, 3000 ≤ s ∧ sc s dd pd < sc s ld pl) := by
  rcases hd with ⟨_, rfl⟩ | ⟨h0, hc, hl, rfl, hs⟩
  · exact ⟨by simp, .inl rfl, .inl rfl⟩
  · refine ⟨by omega, .inr (by omega), .inr ⟨hc, 3000, Nat.le_refl _, ?_⟩⟩
    obtain ⟨s, hs3⟩ : ∃ s, s = 3000 := ⟨_, rfl⟩
    rw [← hs3, hs s (by omega)]
    have h1 := hL.near s (by omega)
    have h2 := (half_round ho hn).1
    have h3 : sc s ((digs (5 * h)).take n) (((digs (5 * h)).length : Int) - 1) = pre (digs (5 * h)) n * 10 ^ ((digs (5 * h)).length - n) * 10 ^ (s - 1) := by
      unfold sc
      rw [← pre_take _ n (by omega), Nat.mul_assoc, ← Nat.pow_add, List.length_take, Nat.min_eq_left (by omega)]
      congr 2
      omega
    rw [h3]
    generalize pre (digs (5 * h)) n * 10 ^ ((digs (5 * h)).length - n) = Y at *
    generalize 10 ^ (s - 1) = T at *
    have h4 := Nat.mul_le_mul_right T h2
    rw [Nat.add_mul] at h4
    omega
theorem above_high {h n : Nat} {dd ld : List Nat} {pd pl : Int} (ho : h % 2 = 1) (hn : n < (digs (5 * h)).length) (hL : HighDec h ld pl)
    (hs : ∀ s : Nat, (n : Int) ≤ ((digs (5 * h)).length : Int) - 1 + s → sc s dd pd = (pre (digs (5 * h)) n + 1) * 10 ^ (((digs (5 * h)).length : Int) - 1 + s - n).toNat) :
    sc 3000 ld pl < sc 3000 dd pd := by
  obtain ⟨s, hs3⟩ : ∃ s, s = 3000 := ⟨_, rfl⟩
  rw [← hs3, hs s (by omega)]
  have h1 := hL.near s (by omega)
  have h2 := (half_round ho hn).2
  rw [show (((digs (5 * h)).length : Int) - 1 + (s : Nat) - n).toNat = (digs (5 * h)).length - n + (s - 1) by omega, Nat.pow_add, ← Nat.mul_assoc]
  generalize (pre (digs (5 * h)) n + 1) * 10 ^ ((digs (5 * h)).length - n) = Y at *
  generalize 10 ^ (s - 1) = T at *
  have h4 := Nat.mul_le_mul_right T h2
  rw [Nat.add_mul] at h4
  omega
theorem Old.half {w w1 w2 : World} {g : Nat} (h : Old w w1) (hc : Chg (fun b => b ≠ g) w1 w2) (hg : w.heap.size ≤ g) : Old w w2 := h.chg_ hc fun i hi => by omega
set_option maxHeartbeats 16000000 in
set_option maxRecDepth 100000 in
theorem short_any (w : World) (g : Nat) (v : Value) (h L m : Nat) (ho : h % 2 = 1) (hL : L ≤ 52) (hm1 : 4503599627370496 ≤ m) (hm2 : m < 9007199254740992) (hm : m = h * 2 ^ (52 - L)) (D : List Nat) (hD : D = digs (5 * h)) (hl : D.length ≤ 100) (p : Int) (hp : p = (D.length : Int) - 1) (hd : DecAt w g v D p) :
    Calls Tryz.prog 128 #[.pointer (some ⟨g, 0, none⟩), .int .u64 (m : Nat), .int .i64 ((L : Int) - 1), .agg #[.int .i64 52, .int .i64 11, .int .i64 (-1023)]] w fun e w' => e = .returned (.pointer (some ⟨g, 0, none⟩)) ∧ Old w w' := by
  obtain ⟨A, c, rfl, hcap⟩ := hd.row.len
  obtain ⟨N1, hN1⟩ : ∃ N1 : Nat, N1 = 2 * m + 1 := ⟨_, rfl⟩
  obtain ⟨N2, hN2⟩ : ∃ N2 : Nat, N2 = 2 * m - 1 := ⟨_, rfl⟩
  obtain ⟨N3, hN3⟩ : ∃ N3 : Nat, N3 = 4 * m - 1 := ⟨_, rfl⟩
  have e1 : 2 * N1 = h * 2 ^ (54 - L) + 2 := by
    rw [show 54 - L = 52 - L + 2 by omega, Nat.pow_add, ← Nat.mul_assoc, ← hm]
    omega
  have e2 : 2 * N2 + 2 = h * 2 ^ (54 - L) := by
    rw [show 54 - L = 52 - L + 2 by omega, Nat.pow_add, ← Nat.mul_assoc, ← hm]
    omega
  have e3 : 2 * N3 + 2 = h * 2 ^ (55 - L) := by
    rw [show 55 - L = 52 - L + 3 by omega, Nat.pow_add, ← Nat.mul_assoc, ← hm]
    omega
  have E1 := Lib.hid e1
  have E2 := Lib.hid e2
  have E3 := Lib.hid e3
  have s1 : IntKind.u64.wrap (2 * (m : Int)) = 2 * (m : Int) := IntWalk.u64_in _ (by omega)
  have s2 : IntKind.u64.wrap (2 * (m : Int) + 1) = (N1 : Nat) := (IntWalk.u64_in _ (by omega)).trans (by omega)
  have s3 : IntKind.u64.wrap (2 * (m : Int) - 1) = (N2 : Nat) := (IntWalk.u64_in _ (by omega)).trans (by omega)
  have s4 : IntKind.u64.wrap (4 * (m : Int)) = 4 * (m : Int) := IntWalk.u64_in _ (by omega)
  have s5 : IntKind.u64.wrap (4 * (m : Int) - 1) = (N3 : Nat) := (IntWalk.u64_in _ (by omega)).trans (by omega)
  have s6 : IntKind.i64.wrap ((L : Int) - 1 - 52) = (L : Int) - 1 - 52 := IntWalk.i64_in _ (by omega)
  have s7 : IntKind.i64.wrap ((L : Int) - 1 - 52 - 1) = (L : Int) - 1 - 52 - 1 := IntWalk.i64_in _ (by omega)
  have s8 : IntKind.i64.wrap ((L : Int) - 1 - 52 - 2) = (L : Int) - 1 - 52 - 2 := IntWalk.i64_in _ (by omega)
  have b1 : 0 < N1 ∧ N1 < 18446744073709551616 := by omega
  have b2 : 0 < N2 ∧ N2 < 18446744073709551616 := by omega
  have b3 : 0 < N3 ∧ N3 < 18446744073709551616 := by omega
  have hm0 : ((m : Int) == 0) = false := by simp; omega
  have hm0' : m ≠ 0 := by omega
  have hx : (L : Int) - 1 > -1022 := by omega
  have hx2 : decide ((-1022 : Int) < (L : Int) - 1) = true := by simp; omega
  have H0 := Lib.hid hd
  have HP := Lib.hid hp
  have HD := Lib.hid hD
  clear hd hp hD hm hN1 hN2 hN3 e1 e2 e3
  obtain ⟨wb, hwb⟩ : ∃ wb, wb = w.alloc (.cells #[.int .i64 52, .int .i64 11, .int .i64 (-1023)] 195) := ⟨_, rfl⟩
  have HOB := Lib.hid (show Old w wb by rw [hwb]; exact (Old.refl w).alloc _)
  have HBB := Lib.hid (show Blk wb w.heap.size #[.int .i64 52, .int .i64 11, .int .i64 (-1023)] 195 by rw [hwb]; exact Blk.new _ _ _)
  have HSB := Lib.hid (show wb.heap.size = w.heap.size + 1 by rw [hwb]; simp)
  go_enter Tryz.func128, Tryz.ntmps128
  have HBXb := Lib.hid HBB.out
  have hsb := HSB.out
  clear HBB HSB
  go_upto_region 3 with (fail)
  rw [← hwb]
  clear hwb
  go_upto_region 4 with (go_at_call 126; go_must (refine (new_decimal N1 b1.1 b1.2 wb).mono ?_; rintro e w1a ⟨g1, v1, d1, p1, rfl, hg1, hd1, hc1, hl1, hp1, hs1, ho1⟩; have HO1 := Lib.hid ho1; have HG1 := Lib.hid hg1; have HD1 := Lib.hid hd1; have HC1 := Lib.hid hc1; have HL1 := Lib.hid hl1; have HP1 := Lib.hid hp1; have HS1 := Lib.hid hs1; clear hg1 hd1 hc1 hl1 hp1 hs1 ho1))
  have x1 : w1a.cell? ⟨w.heap.size, 0, none⟩ = some (.int .i64 52) := (HBXb.out.old HO1.out).cell 0
  have hsh1 := shift_any w1a g1 v1 d1 p1 HC1.out (by have := HL1.out; have := HP1.out; omega) (by have := HL1.out; have := HP1.out; omega) (54 - L) (by omega) HD1.out ((L : Int) - 1 - 52 - 1) (by omega)
  have HSH1 := Lib.hid hsh1
  clear hsh1
  go_upto_region 5 with (go_at_call 127; go_must (refine HSH1.out.mono ?_; rintro e w1b ⟨rfl, v1b, d1b, p1b, hd1, hc1, hl1, hp1, hq1, hs1, ho1⟩; have HO1b := Lib.hid (Old.half HO1.out ho1 HG1.out); have HBX1 := Lib.hid (HBXb.out.old HO1b.out); have y1 := HBX1.out.cell 0; have z1 := HBX1.out.cell 2; simp at y1 z1; have HD1b := Lib.hid hd1; have HQ1 := Lib.hid (high_dec (h := h) (by omega) E1.out HS1.out HL1.out HP1.out hc1 hl1 hp1 hq1 hs1); clear hd1 hc1 hl1 hp1 hq1 hs1 ho1))
  clear x1 HSH1 HD1 HC1 HL1 HP1 HS1 HO1
  go_upto_region 6 with (go_at_call 126; go_must (refine (new_decimal N2 b2.1 b2.2 w1b).mono ?_; rintro e w2a ⟨g2, v2, d2, p2, rfl, hg2, hd2, hc2, hl2, hp2, hs2, ho2⟩; have HO2 := Lib.hid ho2; have HG2 := Lib.hid hg2; have HD2 := Lib.hid hd2; have HC2 := Lib.hid hc2; have HL2 := Lib.hid hl2; have HP2 := Lib.hid hp2; have HS2 := Lib.hid hs2; clear hg2 hd2 hc2 hl2 hp2 hs2 ho2))
  have x2 : w2a.cell? ⟨w.heap.size, 0, none⟩ = some (.int .i64 52) := (HBX1.out.old HO2.out).cell 0
  have hsh2 := shift_any w2a g2 v2 d2 p2 HC2.out (by have := HL2.out; have := HP2.out; omega) (by have := HL2.out; have := HP2.out; omega) (54 - L) (by omega) HD2.out ((L : Int) - 1 - 52 - 1) (by omega)
  have HSH2 := Lib.hid hsh2
  clear hsh2
  go_upto_region 7 with (go_at_call 127; go_must (refine HSH2.out.mono ?_; rintro e w2b ⟨rfl, v2b, d2b, p2b, hd2, hc2, hl2, hp2, hq2, hs2, ho2⟩; have HO2b := Lib.hid (Old.half HO2.out ho2 HG2.out); have HBX2 := Lib.hid (HBX1.out.old HO2b.out); have y2 := HBX2.out.cell 0; have z2 := HBX2.out.cell 2; simp at y2 z2; have HD2b := Lib.hid hd2; have HQ2 := Lib.hid (low_dec (h := h) (by omega) E2.out HS2.out HL2.out HP2.out hc2 hl2 hp2 hq2 hs2); clear hd2 hc2 hl2 hp2 hq2 hs2 ho2))
  clear x2 HSH2 HD2 HC2 HL2 HP2 HS2 HO2
  by_cases hpow : m = 4503599627370496
  · have hpw : ((m : Int) == 4503599627370496) = true := by simp; omega
    have hev2 : (m : Int) % 2 = 0 := by omega
    have HPW := Lib.hid hpow
    clear hpow
    go_upto_region 9 with (go_at_call 126; go_must (refine (new_decimal N3 b3.1 b3.2 w2b).mono ?_; rintro e w3a ⟨g3, v3, d3, p3, rfl, hg3, hd3, hc3, hl3, hp3, hs3, ho3⟩; have HO3 := Lib.hid ho3; have HG3 := Lib.hid hg3; have HD3 := Lib.hid hd3; have HC3 := Lib.hid hc3; have HL3 := Lib.hid hl3; have HP3 := Lib.hid hp3; have HS3 := Lib.hid hs3; clear hg3 hd3 hc3 hl3 hp3 hs3 ho3))
    have x3 : w3a.cell? ⟨w.heap.size, 0, none⟩ = some (.int .i64 52) := (HBX2.out.old HO3.out).cell 0
    have hsh3 := shift_any w3a g3 v3 d3 p3 HC3.out (by have := HL3.out; have := HP3.out; omega) (by have := HL3.out; have := HP3.out; omega) (55 - L) (by omega) HD3.out ((L : Int) - 1 - 52 - 2) (by omega)
    have HSH3 := Lib.hid hsh3
    clear hsh3
    go_upto_region 10 with (go_at_call 127; go_must (refine HSH3.out.mono ?_; rintro e w3b ⟨rfl, v3b, d3b, p3b, hd3, hc3, hl3, hp3, hq3, hs3, ho3⟩; have HO3b := Lib.hid (Old.half HO3.out ho3 HG3.out); have HBX3 := Lib.hid (HBX2.out.old HO3b.out); have y3 := HBX3.out.cell 0; have z3 := HBX3.out.cell 2; simp at y3 z3; have HD3b := Lib.hid hd3; have HQ3 := Lib.hid (low_dec (h := h) (by omega) E3.out HS3.out HL3.out HP3.out hc3 hl3 hp3 hq3 hs3); clear hd3 hc3 hl3 hp3 hq3 hs3 ho3))
    clear x3 HSH3 HD3 HC3 HL3 HP3 HS3 HO3
    have HE := Lib.hid (show Old w w3b from HOB.out.trans (HO1b.out.trans (HO2b.out.trans HO3b.out)))
    have HA := Lib.hid (H0.out.old HE.out)
    have HHI := Lib.hid (show DecAt w3b g1 v1b d1b p1b from HD1b.out.old (HO2b.out.trans HO3b.out))
    have HLO := Lib.hid HD3b.out
    clear H0 HD1b HD2b HD3b HO1b HO2b HO3b HOB HBXb HBX1 HBX2 HBX3 y1 z1 y2 z2 y3 z3
    go_upto_region 13 with (fail)
    go_wp2
    simp only [hev2]
    go_loopg [12] D.length (fun gk s12 wr => ∃ i, i + gk = D.length ∧ s12 = .int .i64 (i : Nat) ∧ Old w3b wr)
    case atStart => exact ⟨0, by omega, by go_num, Old.refl _⟩
    case round =>
      obtain ⟨i, hi, rfl, hro⟩ := hrel
      have HR := Lib.hid hro
      have HAR := Lib.hid (HA.out.old hro)
      have a0 : wr.cell? ⟨g, 0, none⟩ = some (.slice A D.length c) := HAR.out.blk.cell 0
      clear hro
      by_cases hz : gk = 0
      · obtain rfl : i = D.length := by omega
        go_wp2
        go_ret
        exact ⟨rfl, HE.out.trans HR.out⟩
      · have hil : i < D.length := by omega
        have hil2 : (i : Int) < (D.length : Int) := by omega
        have t1 : IntKind.i64.wrap ((i : Int) + 1) = (i : Int) + 1 := IntWalk.i64_in _ (by omega)
        have hdn := down_any wr g _ D p (by rw [HD.out]; exact half_canon ho) (by omega) i hil HAR.out
        have HDN := Lib.hid hdn
        clear hdn
        go_upto_region 17 with (first | (go_at_call 153; go_must (refine HDN.out.mono ?_; rintro e w8 ⟨gd, vd, dd, pd, rfl, hd8, hs8, ho8⟩; have HD8 := Lib.hid hd8; have HS8 := Lib.hid hs8; have HO8 := Lib.hid ho8; clear hd8 hs8 ho8)) | (go_at_call 154; go_must (refine (up_any w8 g _ D p (by rw [HD.out]; exact half_canon ho) (by omega) (by have := HP.out; omega) i hil (HAR.out.old HO8.out)).mono ?_; rintro e w9 ⟨gu, vu, du, pu, rfl, hd9, hc9, hl9, hp9, hq9, hs9, ho9⟩; have HD9 := Lib.hid hd9; have HS9 := Lib.hid hs9; have HO9 := Lib.hid ho9; have HC9 := Lib.hid hc9; have HL9 := Lib.hid hl9; have HP9 := Lib.hid (And.intro hp9 hq9); clear hd9 hs9 ho9 hc9 hl9 hp9 hq9)))
        have hbl : dd.length ≤ 100 ∧ (dd = [] ∨ -1000 ≤ pd ∧ pd ≤ 1000) ∧ (dd = [] ∨ Canon dd ∧ ∃ s : Nat, 3000 ≤ s ∧ sc s dd pd < sc s d3b p3b) := by
          have h8 := HS8.out
          rw [HP.out, HD.out] at h8
          rw [HD.out] at hil hl
          exact below_low ho hil hl HQ3.out h8
        have hab : sc 3000 d1b p1b < sc 3000 du pu := by
          have h9 := HS9.out
          rw [HP.out, HD.out] at h9
          rw [HD.out] at hil hl
          exact above_high ho hil HQ1.out h9
        have hc1 := dcmp_any w9 g3 gd v3b vd d3b dd p3b pd (HLO.out.old (HR.out.trans (HO8.out.trans HO9.out))) (HD8.out.old HO9.out) HQ3.out.can (by have := HQ3.out.len; omega) (by omega) (by have := HQ3.out.at_; omega) hbl.2.1 hbl.2.2
        have hc2 := fun w10 (ho10 : Old w9 w10) => dcmp_any w10 gu g1 vu v1b du d1b pu p1b (HD9.out.old ho10) (HHI.out.old (HR.out.trans (HO8.out.trans (HO9.out.trans ho10)))) HC9.out (by have := HL9.out; omega) (by have := HQ1.out.len; omega) (by have := HP9.out; have := HP.out; omega) (.inr (by have := HQ1.out.at_; omega)) (.inr ⟨HQ1.out.can, 3000, Nat.le_refl _, hab⟩)
        have HC1 := Lib.hid hc1
        have HC2 := Lib.hid hc2
        have TK := Lib.hid trivial
        clear hc1 hc2 hbl hab
        go_wp2_with (first | (go_at_call 155; have hq := TK; go_must (refine HC1.out.mono ?_; rintro e w10 ⟨z1, hz1, rfl, ho10⟩; have HO10 := Lib.hid ho10; have u1 : ¬ z1 < 1 := (by omega); have u1d : decide (z1 < 1) = false := decide_eq_false u1; clear hq TK ho10)) | (go_at_call 155; go_must (refine (HC2.out w10 HO10.out).mono ?_; rintro e w11 ⟨z2, hz2, rfl, ho11⟩; have HO11 := Lib.hid ho11; have u2 : ¬ z2 < 1 := (by omega); have u2d : decide (z2 < 1) = false := decide_eq_false u2; clear ho11)))
        go_roundg (gk - 1)
        case measure => omega
        case rel => exact ⟨i + 1, by omega, by go_num, HR.out.trans (HO8.out.trans (HO9.out.trans (HO10.out.trans HO11.out)))⟩
  · have hpw : ((m : Int) == 4503599627370496) = false := by simp; omega
    by_cases hev : m % 2 = 0
    · have hev2 : (m : Int) % 2 = 0 := by omega
      go_upto_region 10 with (fail)
      have HE := Lib.hid (show Old w w2b from HOB.out.trans (HO1b.out.trans HO2b.out))
      have HA := Lib.hid (H0.out.old HE.out)
      have HHI := Lib.hid (show DecAt w2b g1 v1b d1b p1b from HD1b.out.old HO2b.out)
      have HLO := Lib.hid HD2b.out
      clear H0 HD1b HD2b HO1b HO2b HOB HBXb HBX1 HBX2 y1 z1 y2 z2
      go_upto_region 13 with (fail)
      go_wp2
      simp only [hev2]
      go_loopg [12] D.length (fun gk s12 wr => ∃ i, i + gk = D.length ∧ s12 = .int .i64 (i : Nat) ∧ Old w2b wr)
      case atStart => exact ⟨0, by omega, by go_num, Old.refl _⟩
      case round =>
        obtain ⟨i, hi, rfl, hro⟩ := hrel
        have HR := Lib.hid hro
        have HAR := Lib.hid (HA.out.old hro)
        have a0 : wr.cell? ⟨g, 0, none⟩ = some (.slice A D.length c) := HAR.out.blk.cell 0
        clear hro
        by_cases hz : gk = 0
        · obtain rfl : i = D.length := by omega
          go_wp2
          go_ret
          exact ⟨rfl, HE.out.trans HR.out⟩
        · have hil : i < D.length := by omega
          have hil2 : (i : Int) < (D.length : Int) := by omega
          have t1 : IntKind.i64.wrap ((i : Int) + 1) = (i : Int) + 1 := IntWalk.i64_in _ (by omega)
          have hdn := down_any wr g _ D p (by rw [HD.out]; exact half_canon ho) (by omega) i hil HAR.out
          have HDN := Lib.hid hdn
          clear hdn
          go_upto_region 17 with (first | (go_at_call 153; go_must (refine HDN.out.mono ?_; rintro e w8 ⟨gd, vd, dd, pd, rfl, hd8, hs8, ho8⟩; have HD8 := Lib.hid hd8; have HS8 := Lib.hid hs8; have HO8 := Lib.hid ho8; clear hd8 hs8 ho8)) | (go_at_call 154; go_must (refine (up_any w8 g _ D p (by rw [HD.out]; exact half_canon ho) (by omega) (by have := HP.out; omega) i hil (HAR.out.old HO8.out)).mono ?_; rintro e w9 ⟨gu, vu, du, pu, rfl, hd9, hc9, hl9, hp9, hq9, hs9, ho9⟩; have HD9 := Lib.hid hd9; have HS9 := Lib.hid hs9; have HO9 := Lib.hid ho9; have HC9 := Lib.hid hc9; have HL9 := Lib.hid hl9; have HP9 := Lib.hid (And.intro hp9 hq9); clear hd9 hs9 ho9 hc9 hl9 hp9 hq9)))
          have hbl : dd.length ≤ 100 ∧ (dd = [] ∨ -1000 ≤ pd ∧ pd ≤ 1000) ∧ (dd = [] ∨ Canon dd ∧ ∃ s : Nat, 3000 ≤ s ∧ sc s dd pd < sc s d2b p2b) := by
            have h8 := HS8.out
            rw [HP.out, HD.out] at h8
            rw [HD.out] at hil hl
            exact below_low ho hil hl HQ2.out h8
          have hab : sc 3000 d1b p1b < sc 3000 du pu := by
            have h9 := HS9.out
            rw [HP.out, HD.out] at h9
            rw [HD.out] at hil hl
            exact above_high ho hil HQ1.out h9
          have hc1 := dcmp_any w9 g2 gd v2b vd d2b dd p2b pd (HLO.out.old (HR.out.trans (HO8.out.trans HO9.out))) (HD8.out.old HO9.out) HQ2.out.can (by have := HQ2.out.len; omega) (by omega) (by have := HQ2.out.at_; omega) hbl.2.1 hbl.2.2
          have hc2 := fun w10 (ho10 : Old w9 w10) => dcmp_any w10 gu g1 vu v1b du d1b pu p1b (HD9.out.old ho10) (HHI.out.old (HR.out.trans (HO8.out.trans (HO9.out.trans ho10)))) HC9.out (by have := HL9.out; omega) (by have := HQ1.out.len; omega) (by have := HP9.out; have := HP.out; omega) (.inr (by have := HQ1.out.at_; omega)) (.inr ⟨HQ1.out.can, 3000, Nat.le_refl _, hab⟩)
          have HC1 := Lib.hid hc1
          have HC2 := Lib.hid hc2
          have TK := Lib.hid trivial
          clear hc1 hc2 hbl hab
          go_wp2_with (first | (go_at_call 155; have hq := TK; go_must (refine HC1.out.mono ?_; rintro e w10 ⟨z1, hz1, rfl, ho10⟩; have HO10 := Lib.hid ho10; have u1 : ¬ z1 < 1 := (by omega); have u1d : decide (z1 < 1) = false := decide_eq_false u1; clear hq TK ho10)) | (go_at_call 155; go_must (refine (HC2.out w10 HO10.out).mono ?_; rintro e w11 ⟨z2, hz2, rfl, ho11⟩; have HO11 := Lib.hid ho11; have u2 : ¬ z2 < 1 := (by omega); have u2d : decide (z2 < 1) = false := decide_eq_false u2; clear ho11)))
          go_roundg (gk - 1)
          case measure => omega
          case rel => exact ⟨i + 1, by omega, by go_num, HR.out.trans (HO8.out.trans (HO9.out.trans (HO10.out.trans HO11.out)))⟩
    · have hev2 : (m : Int) % 2 = 1 := by omega
      go_upto_region 10 with (fail)
      have HE := Lib.hid (show Old w w2b from HOB.out.trans (HO1b.out.trans HO2b.out))
      have HA := Lib.hid (H0.out.old HE.out)
      have HHI := Lib.hid (show DecAt w2b g1 v1b d1b p1b from HD1b.out.old HO2b.out)
      have HLO := Lib.hid HD2b.out
      clear H0 HD1b HD2b HO1b HO2b HOB HBXb HBX1 HBX2 y1 z1 y2 z2
      go_upto_region 13 with (fail)
      go_wp2
      simp only [hev2]
      go_loopg [12] D.length (fun gk s12 wr => ∃ i, i + gk = D.length ∧ s12 = .int .i64 (i : Nat) ∧ Old w2b wr)
      case atStart => exact ⟨0, by omega, by go_num, Old.refl _⟩
      case round =>
        obtain ⟨i, hi, rfl, hro⟩ := hrel
        have HR := Lib.hid hro
        have HAR := Lib.hid (HA.out.old hro)
        have a0 : wr.cell? ⟨g, 0, none⟩ = some (.slice A D.length c) := HAR.out.blk.cell 0
        clear hro
        by_cases hz : gk = 0
        · obtain rfl : i = D.length := by omega
          go_wp2
          go_ret
          exact ⟨rfl, HE.out.trans HR.out⟩
        · have hil : i < D.length := by omega
          have hil2 : (i : Int) < (D.length : Int) := by omega
          have t1 : IntKind.i64.wrap ((i : Int) + 1) = (i : Int) + 1 := IntWalk.i64_in _ (by omega)
          have hdn := down_any wr g _ D p (by rw [HD.out]; exact half_canon ho) (by omega) i hil HAR.out
          have HDN := Lib.hid hdn
          clear hdn
          go_upto_region 17 with (first | (go_at_call 153; go_must (refine HDN.out.mono ?_; rintro e w8 ⟨gd, vd, dd, pd, rfl, hd8, hs8, ho8⟩; have HD8 := Lib.hid hd8; have HS8 := Lib.hid hs8; have HO8 := Lib.hid ho8; clear hd8 hs8 ho8)) | (go_at_call 154; go_must (refine (up_any w8 g _ D p (by rw [HD.out]; exact half_canon ho) (by omega) (by have := HP.out; omega) i hil (HAR.out.old HO8.out)).mono ?_; rintro e w9 ⟨gu, vu, du, pu, rfl, hd9, hc9, hl9, hp9, hq9, hs9, ho9⟩; have HD9 := Lib.hid hd9; have HS9 := Lib.hid hs9; have HO9 := Lib.hid ho9; have HC9 := Lib.hid hc9; have HL9 := Lib.hid hl9; have HP9 := Lib.hid (And.intro hp9 hq9); clear hd9 hs9 ho9 hc9 hl9 hp9 hq9)))
          have hbl : dd.length ≤ 100 ∧ (dd = [] ∨ -1000 ≤ pd ∧ pd ≤ 1000) ∧ (dd = [] ∨ Canon dd ∧ ∃ s : Nat, 3000 ≤ s ∧ sc s dd pd < sc s d2b p2b) := by
            have h8 := HS8.out
            rw [HP.out, HD.out] at h8
            rw [HD.out] at hil hl
            exact below_low ho hil hl HQ2.out h8
          have hab : sc 3000 d1b p1b < sc 3000 du pu := by
            have h9 := HS9.out
            rw [HP.out, HD.out] at h9
            rw [HD.out] at hil hl
            exact above_high ho hil HQ1.out h9
          have hc1 := dcmp_any w9 g2 gd v2b vd d2b dd p2b pd (HLO.out.old (HR.out.trans (HO8.out.trans HO9.out))) (HD8.out.old HO9.out) HQ2.out.can (by have := HQ2.out.len; omega) (by omega) (by have := HQ2.out.at_; omega) hbl.2.1 hbl.2.2
          have hc2 := fun w10 (ho10 : Old w9 w10) => dcmp_any w10 gu g1 vu v1b du d1b pu p1b (HD9.out.old ho10) (HHI.out.old (HR.out.trans (HO8.out.trans (HO9.out.trans ho10)))) HC9.out (by have := HL9.out; omega) (by have := HQ1.out.len; omega) (by have := HP9.out; have := HP.out; omega) (.inr (by have := HQ1.out.at_; omega)) (.inr ⟨HQ1.out.can, 3000, Nat.le_refl _, hab⟩)
          have HC1 := Lib.hid hc1
          have HC2 := Lib.hid hc2
          have TK := Lib.hid trivial
          clear hc1 hc2 hbl hab
          go_wp2_with (first | (go_at_call 155; have hq := TK; go_must (refine HC1.out.mono ?_; rintro e w10 ⟨z1, hz1, rfl, ho10⟩; have HO10 := Lib.hid ho10; have u1 : ¬ z1 < 0 := (by omega); have u1d : decide (z1 < 0) = false := decide_eq_false u1; clear hq TK ho10)) | (go_at_call 155; go_must (refine (HC2.out w10 HO10.out).mono ?_; rintro e w11 ⟨z2, hz2, rfl, ho11⟩; have HO11 := Lib.hid ho11; have u2 : ¬ z2 < 0 := (by omega); have u2d : decide (z2 < 0) = false := decide_eq_false u2; clear ho11)))
          go_roundg (gk - 1)
          case measure => omega
          case rel => exact ⟨i + 1, by omega, by go_num, HR.out.trans (HO8.out.trans (HO9.out.trans (HO10.out.trans HO11.out)))⟩
end Go.Proofs.YthggnkmlnjlggaaGreatDoor
