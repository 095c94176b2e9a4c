/-
  Half of an odd number written as text: the walk of FormatFloat.
  Conditions: none.
-/
import Derived.Test.YthggnkmlnjlggaaGreatDoorText
import Derived.Test.YthggnkmlnjlggaaGreatDoorAbs
namespace Go.Proofs.YthggnkmlnjlggaaGreatDoor
open Go.RowKit Ieee
attribute [local go_sem ↓] Go.wp_at_zero Go.wp_at_succ

set_option maxRecDepth 100000 in
theorem form_of (w : World) : Calls Tryz.prog 124 #[.int .i64 64] w fun e w' => e = .returned (.agg #[.int .i64 52, .int .i64 11, .int .i64 (-1023)]) ∧ Old w w' := by
  go_enter Tryz.func124, Tryz.ntmps124
  go_wp2
  refine bodyPost_ret (v := .agg #[.int .i64 52, .int .i64 11, .int .i64 (-1023)]) (results_cell_row (p := 2) (ty := 195) rfl _ _ w.heap.size 195 _ (0, 0) _ rfl (Blk.new w _ _) Tryz.underlying195 rfl (by kernel_rfl)) rfl ⟨rfl, (Old.refl w).alloc _⟩
/-- The parts of a word. -/
theorem word_parts {h : Int} (ho : h % 2 = 1) (hb : -9007199254740992 < h ∧ h < 9007199254740992) : ∃ m L f : Nat, L ≤ 52 ∧ m = h.natAbs * 2 ^ (52 - L) ∧ m = 4503599627370496 + f ∧ f < 4503599627370496 ∧ fhalf h = (if h < 0 then 9223372036854775808 else 0) + ((L + 1022) * 4503599627370496 + f) := by
  obtain ⟨m, L, hL, h1, h2, hm, _, hf⟩ := forms h (by omega) (by omega)
  refine ⟨m, L, m - 4503599627370496, hL, hm, by omega, by omega, ?_⟩
  rw [hf]
  unfold Format.word
  rw [dbl_sign]
  by_cases hd : h < 0
  · simp only [hd, decide_true, if_true]
    omega
  · simp only [hd, decide_false, Bool.false_eq_true, if_false]
    omega
-- FMT
theorem i64_and2047 (n : Int) : bits .and .i64 n 2047 = n % 2048 := by
  have h127 : (BitVec.ofInt 64 2047).toNat = 2 ^ 11 - 1 := by decide
  have key : (BitVec.ofInt 64 n &&& BitVec.ofInt 64 2047).toNat = (n % ((2 ^ 64 : Nat) : Int)).toNat % 2 ^ 11 := by
    rw [BitVec.toNat_and, BitVec.toNat_ofInt, h127, Nat.and_two_pow_sub_one_eq_mod]
  show IntKind.i64.wrap ((BitVec.ofInt 64 n &&& BitVec.ofInt 64 2047).toNat : Nat) = n % 2048
  rw [key, IntKind.wrap_i64]
  omega
theorem or_top {f : Nat} (hf : f < 4503599627370496) : bits .or .u64 (f : Int) 4503599627370496 = ((4503599627370496 + f : Nat) : Int) := by
  have := u64_or_nat f 4503599627370496 (by omega) (by decide)
  rw [Nat.or_comm, show (4503599627370496 : Nat) = 2 ^ 52 * 1 from rfl, ← Nat.two_pow_add_eq_or_of_lt (i := 52) (by simpa using hf) 1] at this
  exact this
theorem half_value {h m L S s : Nat} (hS : S * 2 ^ (53 - L) = m * 10 ^ s) (hm : m = h * 2 ^ (52 - L)) (hL : L ≤ 52) (hs : 1 ≤ s) : S = 5 * h * 10 ^ (s - 1) := by
  obtain ⟨r, rfl⟩ : ∃ r, s = r + 1 := ⟨s - 1, by omega⟩
  rw [show 53 - L = 52 - L + 1 by omega, Nat.pow_succ, hm, Nat.pow_succ] at hS
  rw [Nat.add_sub_cancel]
  have hp : 0 < 2 ^ (52 - L) := Nat.two_pow_pos _
  generalize 2 ^ (52 - L) = P at *
  generalize 10 ^ r = T at *
  refine Nat.eq_of_mul_eq_mul_right hp ?_
  have e1 : S * (P * 2) = S * P * 2 := by rw [Nat.mul_assoc]
  have e2 : h * P * (T * 10) = 5 * h * T * P * 2 := by
    rw [show (10 : Nat) = 5 * 2 from rfl]
    simp only [Nat.mul_assoc, Nat.mul_left_comm, Nat.mul_comm]
  omega
theorem half_dec {h m L : Nat} {d d' : List Nat} {p p' : Int} (ho : h % 2 = 1) (hL : L ≤ 52) (hm : m = h * 2 ^ (52 - L)) (h0 : ∀ s, sc s d p = m * 10 ^ s) (hlp : (d.length : Int) ≤ p) (hc : Canon d') (hlen : d'.length ≤ 100) (h1 : p - 20 ≤ p') (h3 : ∀ s : Nat, 200 ≤ s → sc s d' p' * 2 ^ (53 - L) = sc s d p) : d' = digs (5 * h) ∧ ∃ q : Nat, d'.length = q + 1 ∧ p' = (q : Nat) := by
  have hv := half_value (S := sc 200 d' p') (s := 200) (by rw [h3 200 (Nat.le_refl _), h0]) hm hL (by decide)
  obtain ⟨e1, e2⟩ := canon_eq hc (M := 5 * h) (b := 200 - 1) (by omega) hv (by omega)
  have := hc.pos
  exact ⟨e1, d'.length - 1, by omega, by omega⟩
/-- Half of an odd number, with its sign. -/
def fstr (h : Int) : ByteArray := (if h < 0 then ⟨#[45]⟩ else ⟨#[]⟩) ++ hstr h.natAbs
theorem hstr_size {h : Nat} (hb : h < 9007199254740992) : (hstr h).size ≤ 20 := by
  have := digs_len (n := h / 2) (k := 16) (by omega) (by decide)
  unfold hstr
  simp [ByteArray.size]
  omega
set_option maxHeartbeats 8000000 in
set_option maxRecDepth 100000 in
theorem fmt_0 (B L f m a : Nat) (ho : a % 2 = 1) (ha : a < 9007199254740992) (hL : L ≤ 52) (hf : f < 4503599627370496) (hm : m = a * 2 ^ (52 - L)) (hmf : m = 4503599627370496 + f) (hB : B = ((L + 1022) * 4503599627370496 + f)) (w : World) :
    Calls Tryz.prog 115 #[.float .f64 B, .int .u8 102, .int .i64 (-1), .int .i64 64] w fun e w' => e = .returned (.string (⟨#[]⟩ ++ hstr a)) ∧ Old w w' := by
  have h1 : ∀ w, (callFunc 74 #[.float .f64 B]).run Tryz.prog w = .ok (.value (.int .u64 B)) w := fun w => by
    rw [run_callFunc_extern Tryz.func74 (by kernel_rfl) (by kernel_rfl) (by kernel_rfl) (e := Extern.MathFloatBits.float64bits) (by kernel_rfl)]
    rfl
  obtain ⟨X, hX⟩ : ∃ X, X = (L + 1022) := ⟨_, rfl⟩
  have hb64 : B < 18446744073709551616 := by omega
  have t0 : (B : Int) / 9223372036854775808 = 0 := by omega
  have t1 : (B : Int) / 4503599627370496 = (X : Nat) := by omega
  have t2 : IntKind.i64.wrap (X : Int) = (X : Nat) := IntWalk.i64_in _ (by omega)
  have t3 : bits .and .i64 (X : Int) 2047 = ((L + 1022 : Nat) : Int) := by rw [i64_and2047]; omega
  have t4 : bits .and .u64 (B : Int) 4503599627370495 = (f : Nat) := by
    have := u64_and_nat B 4503599627370495 hb64 (by decide)
    rw [show (4503599627370495 : Nat) = 2 ^ 52 - 1 from rfl, Nat.and_two_pow_sub_one_eq_mod, show B % 2 ^ 52 = f by rw [show (2 : Nat) ^ 52 = 4503599627370496 from rfl]; omega] at this
    exact this
  have t5 : bits .or .u64 (f : Int) 4503599627370496 = (m : Nat) := by rw [or_top hf, hmf]
  obtain ⟨E, hE⟩ : ∃ E : Nat, E = L + 1022 := ⟨_, rfl⟩
  rw [← hE] at t3
  have t6 : (((E : Nat) : Int) == 2047) = false := by simp; omega
  have t7 : (((E : Nat) : Int) == 0) = false := by simp; omega
  have t6b : E ≠ 2047 := by omega
  have t7b : E ≠ 0 := by omega
  have t8 : IntKind.i64.wrap ((E : Int) + -1023) = (L : Int) - 1 := (IntWalk.i64_in _ (by omega)).trans (by omega)
  have t8b : IntKind.i64.wrap ((E : Int) - 1023) = (L : Int) - 1 := (IntWalk.i64_in _ (by omega)).trans (by omega)
  have t9 : IntKind.i64.wrap ((L : Int) - 1 - 52) = (L : Int) - 1 - 52 := IntWalk.i64_in _ (by omega)
  have hm1 : 4503599627370496 ≤ m ∧ m < 9007199254740992 := by omega
  have hsz := hstr_size ha
  have hadd := fun W => run_string_add_sum (P := Tryz.prog) W ⟨#[]⟩ (hstr a) (by have : (ByteArray.mk #[]).size = 0 := rfl; omega)
  have HM := Lib.hid hm
  clear hX hB hf hmf hE hm hb64
  go_enter Tryz.func115, Tryz.ntmps115
  go_upto_region 12 with (go_at_call 124; go_must (refine (form_of w).mono ?_; rintro e w1 ⟨rfl, ho1⟩))
  go_quiet (fail)
  have HOB := Lib.hid (show Old w ((w1.alloc (.cells #[.int .i64 52, .int .i64 11, .int .i64 (-1023)] 195)).drewN nq) from (ho1.alloc _).drewN nq)
  have HBX := Lib.hid (show Blk ((w1.alloc (.cells #[.int .i64 52, .int .i64 11, .int .i64 (-1023)] 195)).drewN nq) w1.heap.size #[.int .i64 52, .int .i64 11, .int .i64 (-1023)] 195 from Blk.new w1 _ _)
  clear ho1
  generalize ((w1.alloc (.cells #[.int .i64 52, .int .i64 11, .int .i64 (-1023)] 195)).drewN nq) = wq at *
  have q0 := HBX.out.cell 0
  have q1 := HBX.out.cell 1
  have q2 := HBX.out.cell 2
  simp at q0 q1 q2
  have HSB := Lib.hid HBX.out.lt
  go_upto_region 30 with (go_at_call 126; go_must (refine (new_decimal m (by omega) (by omega) wq).mono ?_; rintro e w1a ⟨g1, v1, d1, p1, rfl, hg1, hd1, hc1, hl1, hp1, hs1, ho1⟩; have HO1 := Lib.hid ho1; have HG1 := Lib.hid hg1; have HD1 := Lib.hid hd1; have HC1 := Lib.hid hc1; have HL1 := Lib.hid hl1; have HP1 := Lib.hid hp1; have HS1 := Lib.hid hs1; clear hg1 hd1 hc1 hl1 hp1 hs1 ho1))
  have x1 : w1a.cell? ⟨w1.heap.size, 0, none⟩ = some (.int .i64 52) := (HBX.out.old HO1.out).cell 0
  have hsh := shift_any w1a g1 v1 d1 p1 HC1.out (by have := HL1.out; have := HP1.out; omega) (by have := HL1.out; have := HP1.out; omega) (53 - L) (by omega) HD1.out ((L : Int) - 1 - 52) (by omega)
  have HSH := Lib.hid hsh
  clear hsh
  go_upto_region 31 with (go_at_call 127; go_must (refine HSH.out.mono ?_; rintro e w2 ⟨rfl, v2, D, p2, hd2, hc2, hl2, hp2, hq2, hs2, ho2⟩; have HO2 := Lib.hid (Old.half HO1.out ho2 HG1.out); have HD2 := Lib.hid hd2; have HDD := Lib.hid (half_dec ho (by omega) HM.out HS1.out HL1.out hc2 hl2 hp2 hs2); have HLL := Lib.hid hl2; clear hd2 hc2 hl2 hp2 hq2 hs2 ho2))
  clear x1 HSH HD1 HC1 HL1 HP1 HS1 HO1
  have hdd := HDD.out
  obtain ⟨hD, q, hq, rfl⟩ := hdd
  have HBX2 := Lib.hid (HBX.out.old HO2.out)
  have y0 := HBX2.out.cell 0
  have y1 := HBX2.out.cell 1
  have y2 := HBX2.out.cell 2
  simp at y0 y1 y2
  have HD := Lib.hid hD
  have hshort := short_any w2 g1 v2 a L m ho hL hm1.1 hm1.2 HM.out D hD HLL.out (q : Nat) (by omega) HD2.out
  have HSHORT := Lib.hid hshort
  clear hD hshort HDD
  go_upto_region 39 with (go_at_call 128; go_must (refine HSHORT.out.mono ?_; rintro e w3 ⟨rfl, ho3⟩; have HO3 := Lib.hid ho3; clear ho3))
  have HD3 := Lib.hid (HD2.out.old HO3.out)
  obtain ⟨A, c, hv, hcap⟩ := HD3.out.row.len
  subst hv
  have x0 : w3.cell? ⟨g1, 0, none⟩ = some (.slice A D.length c) := HD3.out.blk.cell 0
  have x1 : w3.cell? ⟨g1, 1, none⟩ = some (.int .i64 (q : Nat)) := HD3.out.blk.cell 1
  have u1 : IntKind.i64.wrap ((D.length : Int) - (q : Nat)) = 1 := (IntWalk.i64_in _ (by have := HLL.out; omega)).trans (by omega)
  have u2 : ((D.length : Int) - (q : Nat)) = 1 := by omega
  have u3 : max (1 : Int) 0 = 1 := by decide
  have HQ := Lib.hid hq
  clear hq
  go_quiet (fail)
  have HO4 := Lib.hid (show Old w (w3.drewN nq) from (HOB.out.trans (HO2.out.trans HO3.out)).drewN nq)
  have HD4 := Lib.hid (show DecAt (w3.drewN nq) g1 (.slice A D.length c) D ((q : Nat) : Int) from HD3.out.old ((Old.refl w3).drewN nq))
  clear x0 x1 HD3
  generalize w3.drewN nq = w4 at *
  have htx := text_any w4 g1 _ a ho D HD.out HLL.out q HQ.out HD4.out
  have HTX := Lib.hid htx
  clear htx
  go_wp2_with (go_at_call 131; go_must (with_reducible refine HTX.out.mono ?_; rintro e w5 ⟨rfl, ho5⟩; have HO5 := Lib.hid ho5; clear ho5))
  go_ret
  exact ⟨rfl, HO4.out.trans HO5.out⟩
set_option maxHeartbeats 8000000 in
set_option maxRecDepth 100000 in
theorem fmt_1 (B L f m a : Nat) (ho : a % 2 = 1) (ha : a < 9007199254740992) (hL : L ≤ 52) (hf : f < 4503599627370496) (hm : m = a * 2 ^ (52 - L)) (hmf : m = 4503599627370496 + f) (hB : B = 9223372036854775808 + ((L + 1022) * 4503599627370496 + f)) (w : World) :
    Calls Tryz.prog 115 #[.float .f64 B, .int .u8 102, .int .i64 (-1), .int .i64 64] w fun e w' => e = .returned (.string (⟨#[45]⟩ ++ hstr a)) ∧ Old w w' := by
  have h1 : ∀ w, (callFunc 74 #[.float .f64 B]).run Tryz.prog w = .ok (.value (.int .u64 B)) w := fun w => by
    rw [run_callFunc_extern Tryz.func74 (by kernel_rfl) (by kernel_rfl) (by kernel_rfl) (e := Extern.MathFloatBits.float64bits) (by kernel_rfl)]
    rfl
  obtain ⟨X, hX⟩ : ∃ X, X = 2048 + (L + 1022) := ⟨_, rfl⟩
  have hb64 : B < 18446744073709551616 := by omega
  have t0 : (B : Int) / 9223372036854775808 = 1 := by omega
  have t1 : (B : Int) / 4503599627370496 = (X : Nat) := by omega
  have t2 : IntKind.i64.wrap (X : Int) = (X : Nat) := IntWalk.i64_in _ (by omega)
  have t3 : bits .and .i64 (X : Int) 2047 = ((L + 1022 : Nat) : Int) := by rw [i64_and2047]; omega
  have t4 : bits .and .u64 (B : Int) 4503599627370495 = (f : Nat) := by
    have := u64_and_nat B 4503599627370495 hb64 (by decide)
    rw [show (4503599627370495 : Nat) = 2 ^ 52 - 1 from rfl, Nat.and_two_pow_sub_one_eq_mod, show B % 2 ^ 52 = f by rw [show (2 : Nat) ^ 52 = 4503599627370496 from rfl]; omega] at this
    exact this
  have t5 : bits .or .u64 (f : Int) 4503599627370496 = (m : Nat) := by rw [or_top hf, hmf]
  obtain ⟨E, hE⟩ : ∃ E : Nat, E = L + 1022 := ⟨_, rfl⟩
  rw [← hE] at t3
  have t6 : (((E : Nat) : Int) == 2047) = false := by simp; omega
  have t7 : (((E : Nat) : Int) == 0) = false := by simp; omega
  have t6b : E ≠ 2047 := by omega
  have t7b : E ≠ 0 := by omega
  have t8 : IntKind.i64.wrap ((E : Int) + -1023) = (L : Int) - 1 := (IntWalk.i64_in _ (by omega)).trans (by omega)
  have t8b : IntKind.i64.wrap ((E : Int) - 1023) = (L : Int) - 1 := (IntWalk.i64_in _ (by omega)).trans (by omega)
  have t9 : IntKind.i64.wrap ((L : Int) - 1 - 52) = (L : Int) - 1 - 52 := IntWalk.i64_in _ (by omega)
  have hm1 : 4503599627370496 ≤ m ∧ m < 9007199254740992 := by omega
  have hsz := hstr_size ha
  have hadd := fun W => run_string_add_sum (P := Tryz.prog) W ⟨#[45]⟩ (hstr a) (by have : (ByteArray.mk #[45]).size = 1 := rfl; omega)
  have HM := Lib.hid hm
  clear hX hB hf hmf hE hm hb64
  go_enter Tryz.func115, Tryz.ntmps115
  go_upto_region 12 with (go_at_call 124; go_must (refine (form_of w).mono ?_; rintro e w1 ⟨rfl, ho1⟩))
  go_quiet (fail)
  have HOB := Lib.hid (show Old w ((w1.alloc (.cells #[.int .i64 52, .int .i64 11, .int .i64 (-1023)] 195)).drewN nq) from (ho1.alloc _).drewN nq)
  have HBX := Lib.hid (show Blk ((w1.alloc (.cells #[.int .i64 52, .int .i64 11, .int .i64 (-1023)] 195)).drewN nq) w1.heap.size #[.int .i64 52, .int .i64 11, .int .i64 (-1023)] 195 from Blk.new w1 _ _)
  clear ho1
  generalize ((w1.alloc (.cells #[.int .i64 52, .int .i64 11, .int .i64 (-1023)] 195)).drewN nq) = wq at *
  have q0 := HBX.out.cell 0
  have q1 := HBX.out.cell 1
  have q2 := HBX.out.cell 2
  simp at q0 q1 q2
  have HSB := Lib.hid HBX.out.lt
  go_upto_region 30 with (go_at_call 126; go_must (refine (new_decimal m (by omega) (by omega) wq).mono ?_; rintro e w1a ⟨g1, v1, d1, p1, rfl, hg1, hd1, hc1, hl1, hp1, hs1, ho1⟩; have HO1 := Lib.hid ho1; have HG1 := Lib.hid hg1; have HD1 := Lib.hid hd1; have HC1 := Lib.hid hc1; have HL1 := Lib.hid hl1; have HP1 := Lib.hid hp1; have HS1 := Lib.hid hs1; clear hg1 hd1 hc1 hl1 hp1 hs1 ho1))
  have x1 : w1a.cell? ⟨w1.heap.size, 0, none⟩ = some (.int .i64 52) := (HBX.out.old HO1.out).cell 0
  have hsh := shift_any w1a g1 v1 d1 p1 HC1.out (by have := HL1.out; have := HP1.out; omega) (by have := HL1.out; have := HP1.out; omega) (53 - L) (by omega) HD1.out ((L : Int) - 1 - 52) (by omega)
  have HSH := Lib.hid hsh
  clear hsh
  go_upto_region 31 with (go_at_call 127; go_must (refine HSH.out.mono ?_; rintro e w2 ⟨rfl, v2, D, p2, hd2, hc2, hl2, hp2, hq2, hs2, ho2⟩; have HO2 := Lib.hid (Old.half HO1.out ho2 HG1.out); have HD2 := Lib.hid hd2; have HDD := Lib.hid (half_dec ho (by omega) HM.out HS1.out HL1.out hc2 hl2 hp2 hs2); have HLL := Lib.hid hl2; clear hd2 hc2 hl2 hp2 hq2 hs2 ho2))
  clear x1 HSH HD1 HC1 HL1 HP1 HS1 HO1
  have hdd := HDD.out
  obtain ⟨hD, q, hq, rfl⟩ := hdd
  have HBX2 := Lib.hid (HBX.out.old HO2.out)
  have y0 := HBX2.out.cell 0
  have y1 := HBX2.out.cell 1
  have y2 := HBX2.out.cell 2
  simp at y0 y1 y2
  have HD := Lib.hid hD
  have hshort := short_any w2 g1 v2 a L m ho hL hm1.1 hm1.2 HM.out D hD HLL.out (q : Nat) (by omega) HD2.out
  have HSHORT := Lib.hid hshort
  clear hD hshort HDD
  go_upto_region 39 with (go_at_call 128; go_must (refine HSHORT.out.mono ?_; rintro e w3 ⟨rfl, ho3⟩; have HO3 := Lib.hid ho3; clear ho3))
  have HD3 := Lib.hid (HD2.out.old HO3.out)
  obtain ⟨A, c, hv, hcap⟩ := HD3.out.row.len
  subst hv
  have x0 : w3.cell? ⟨g1, 0, none⟩ = some (.slice A D.length c) := HD3.out.blk.cell 0
  have x1 : w3.cell? ⟨g1, 1, none⟩ = some (.int .i64 (q : Nat)) := HD3.out.blk.cell 1
  have u1 : IntKind.i64.wrap ((D.length : Int) - (q : Nat)) = 1 := (IntWalk.i64_in _ (by have := HLL.out; omega)).trans (by omega)
  have u2 : ((D.length : Int) - (q : Nat)) = 1 := by omega
  have u3 : max (1 : Int) 0 = 1 := by decide
  have HQ := Lib.hid hq
  clear hq
  go_quiet (fail)
  have HO4 := Lib.hid (show Old w (w3.drewN nq) from (HOB.out.trans (HO2.out.trans HO3.out)).drewN nq)
  have HD4 := Lib.hid (show DecAt (w3.drewN nq) g1 (.slice A D.length c) D ((q : Nat) : Int) from HD3.out.old ((Old.refl w3).drewN nq))
  clear x0 x1 HD3
  generalize w3.drewN nq = w4 at *
  have htx := text_any w4 g1 _ a ho D HD.out HLL.out q HQ.out HD4.out
  have HTX := Lib.hid htx
  clear htx
  go_wp2_with (go_at_call 131; go_must (with_reducible refine HTX.out.mono ?_; rintro e w5 ⟨rfl, ho5⟩; have HO5 := Lib.hid ho5; clear ho5))
  go_ret
  exact ⟨rfl, HO4.out.trans HO5.out⟩
/-- FormatFloat. -/
theorem format_half (h : Int) (ho : h % 2 = 1) (hb : -9007199254740992 < h ∧ h < 9007199254740992) (w : World) : Calls Tryz.prog 115 #[.float .f64 (fhalf h), .int .u8 102, .int .i64 (-1), .int .i64 64] w fun e w' => e = .returned (.string (fstr h)) ∧ Old w w' := by
  obtain ⟨m, L, f, hL, hm, hmf, hf, hB⟩ := word_parts ho (by omega)
  by_cases hn : h < 0
  · rw [if_pos hn] at hB
    have := fmt_1 (fhalf h) L f m h.natAbs (by omega) (by omega) hL hf hm hmf hB w
    unfold fstr
    rw [if_pos hn]
    exact this
  · rw [if_neg hn, Nat.zero_add] at hB
    have := fmt_0 (fhalf h) L f m h.natAbs (by omega) (by omega) hL hf hm hmf hB w
    unfold fstr
    rw [if_neg hn]
    exact this
end Go.Proofs.YthggnkmlnjlggaaGreatDoor
