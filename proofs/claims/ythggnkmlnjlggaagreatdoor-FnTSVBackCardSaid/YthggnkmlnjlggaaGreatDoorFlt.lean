/-
  Halves of integers as floats: exact, there and back.
  Conditions: none.
-/
import Ieee.Arith
import GoSem.Core.Float
namespace Go.Proofs.YthggnkmlnjlggaaGreatDoor
open Ieee

theorem dbl_least : double.leastPlace = -1074 := by decide
theorem dbl_binade : double.binade = 4503599627370496 := by decide
theorem dbl_inf : double.infRung = 9218868437227405312 := by decide
theorem dbl_sign : double.signWeight = 9223372036854775808 := by decide

theorem log2_eq {n k : Nat} (h1 : 2 ^ k ≤ n) (h2 : n < 2 ^ (k + 1)) : n.log2 = k := by
  have hn : n ≠ 0 := by
    have := Nat.two_pow_pos k
    omega
  have := (Nat.le_log2 hn).2 h1
  have := (Nat.log2_lt hn).2 h2
  omega

theorem cut_exact (neg : Bool) (m d : Nat) : Toward.even.cut neg (m * 2 ^ d) d = m := by
  unfold Toward.cut
  by_cases hm : m = 0
  · subst hm
    simp
  · have hlog : d ≤ (m * 2 ^ d).log2 := by
      have hne : m * 2 ^ d ≠ 0 := Nat.mul_ne_zero hm (Nat.pos_iff_ne_zero.1 (Nat.two_pow_pos d))
      refine (Nat.le_log2 hne).2 ?_
      exact Nat.le_mul_of_pos_left _ (Nat.pos_of_ne_zero hm)
    have hmin : min d ((m * 2 ^ d).log2 + 2) = d := by omega
    rw [hmin, Nat.one_shiftLeft]
    have hp := Nat.two_pow_pos d
    simp [Nat.mul_div_cancel _ hp, Nat.mul_mod_left]

/-- A significand of 53 digits, shifted: written without loss. -/
theorem write_shift (neg : Bool) (m d : Nat) (q : Int) (h1 : 4503599627370496 ≤ m) (h2 : m < 9007199254740992) (h3 : -1074 ≤ q + d) (h4 : q + d ≤ 900) :
    double.nearest neg (m * 2 ^ d) q = double.word neg ((q + d + 1074).toNat * 4503599627370496 + m) := by
  have hp := Nat.two_pow_pos d
  have hne : m * 2 ^ d ≠ 0 := Nat.mul_ne_zero (by omega) (by omega)
  have hlog : (m * 2 ^ d).log2 = 52 + d := by
    refine log2_eq ?_ ?_
    · rw [Nat.pow_add]; exact Nat.mul_le_mul_right _ (by rw [show (2 : Nat) ^ 52 = 4503599627370496 from rfl]; exact h1)
    · rw [show 52 + d + 1 = 53 + d by omega, Nat.pow_add]; exact Nat.mul_lt_mul_of_pos_right (by rw [show (2 : Nat) ^ 53 = 9007199254740992 from rfl]; exact h2) hp
  unfold Format.nearest
  rw [if_neg hne, hlog, dbl_least, dbl_binade, dbl_inf]
  have hf : (double.fractionBits : Int) = 52 := rfl
  rw [hf]
  have hlast : max (q + ((52 + d : Nat) : Int) - 52) (-1074) = q + d := by omega
  simp only [hlast]
  rw [show (q - (q + (d : Int))).toNat = 0 by omega, show (q + (d : Int) - q).toNat = d by omega, Nat.shiftLeft_zero, cut_exact]
  have e : (q + d - -1074).toNat = (q + d + 1074).toNat := by omega
  rw [e, Nat.min_eq_left (by omega)]

/-- A whole number of fewer digits. -/
theorem write_small (neg : Bool) (m L : Nat) (q : Int) (h1 : 2 ^ L ≤ m) (h2 : m < 2 ^ (L + 1)) (hL : L ≤ 52) (h3 : -1000 ≤ q) (h4 : q ≤ 800) :
    double.nearest neg m q = double.word neg ((q + L - 52 + 1074).toNat * 4503599627370496 + m * 2 ^ (52 - L)) := by
  have hlog : m.log2 = L := log2_eq h1 h2
  have hp := Nat.two_pow_pos L
  have hne : m ≠ 0 := by omega
  have hup : m * 2 ^ (52 - L) < 9007199254740992 := by
    have : m * 2 ^ (52 - L) < 2 ^ (L + 1) * 2 ^ (52 - L) := Nat.mul_lt_mul_of_pos_right h2 (Nat.two_pow_pos _)
    rw [← Nat.pow_add, show L + 1 + (52 - L) = 53 by omega, show (2 : Nat) ^ 53 = 9007199254740992 from rfl] at this
    exact this
  unfold Format.nearest
  rw [if_neg hne, hlog, dbl_least, dbl_binade, dbl_inf]
  have hf : (double.fractionBits : Int) = 52 := rfl
  rw [hf]
  have hlast : max (q + (L : Int) - 52) (-1074) = q + L - 52 := by omega
  simp only [hlast]
  rw [show (q - (q + (L : Int) - 52)).toNat = 52 - L by omega, show (q + (L : Int) - 52 - q).toNat = 0 by omega, Nat.shiftLeft_eq]
  have hc := cut_exact neg (m * 2 ^ (52 - L)) 0
  rw [Nat.pow_zero, Nat.mul_one] at hc
  rw [hc]
  have e : (q + L - 52 - -1074).toNat = (q + L - 52 + 1074).toNat := by omega
  rw [e, Nat.min_eq_left (by omega)]

theorem read_word (neg : Bool) (m : Nat) (q : Int) (h1 : 4503599627370496 ≤ m) (h2 : m < 9007199254740992) (h3 : -1074 ≤ q) (h4 : q ≤ 900) :
    double.read (double.word neg ((q + 1074).toNat * 4503599627370496 + m)) = .number neg m q := by
  have hr : (q + 1074).toNat * 4503599627370496 + m < 9223372036854775808 := by omega
  unfold Format.read Format.word
  rw [dbl_sign, dbl_binade, dbl_inf, dbl_least]
  have hdiv : (if neg = true then 9223372036854775808 + ((q + 1074).toNat * 4503599627370496 + m) else (q + 1074).toNat * 4503599627370496 + m) / 9223372036854775808 % 2 = if neg = true then 1 else 0 := by
    cases neg <;> simp only [if_true, if_false, Bool.false_eq_true] <;> omega
  have hmod : (if neg = true then 9223372036854775808 + ((q + 1074).toNat * 4503599627370496 + m) else (q + 1074).toNat * 4503599627370496 + m) % 9223372036854775808 = (q + 1074).toNat * 4503599627370496 + m := by
    cases neg <;> simp only [if_true, if_false, Bool.false_eq_true] <;> omega
  simp only [hdiv, hmod]
  rw [if_neg (by omega), if_pos (by omega)]
  have e1 : ((if neg = true then 1 else 0) == 1) = neg := by cases neg <;> rfl
  have e2 : 4503599627370496 + ((q + 1074).toNat * 4503599627370496 + m) % 4503599627370496 = m := by omega
  have e3 : (-1074 : Int) + ((((q + 1074).toNat * 4503599627370496 + m) / 4503599627370496 - 1 : Nat) : Int) = q := by omega
  rw [e1, e2, e3]

/-- The word of an integer; of half an integer. -/
def near (h : Int) : Nat := FloatKind.f64.nearest h
def fhalf (h : Int) : Nat := FloatKind.f64.encode (.number (h < 0) h.natAbs (-1))

theorem forms (h : Int) (h0 : h ≠ 0) (hb : -9007199254740992 < h ∧ h < 9007199254740992) : ∃ m L : Nat, L ≤ 52 ∧ 4503599627370496 ≤ m ∧ m < 9007199254740992 ∧ m = h.natAbs * 2 ^ (52 - L) ∧
    near h = double.word (decide (h < 0)) (((L : Int) - 52 + 1074).toNat * 4503599627370496 + m) ∧ fhalf h = double.word (decide (h < 0)) (((L : Int) - 53 + 1074).toNat * 4503599627370496 + m) := by
  have hne : h.natAbs ≠ 0 := by omega
  have h1 := Nat.log2_self_le hne
  have h2 := Nat.lt_log2_self (n := h.natAbs)
  have hL : h.natAbs.log2 ≤ 52 := by
    have h3 : h.natAbs < 2 ^ 53 := by
      rw [show (2 : Nat) ^ 53 = 9007199254740992 from rfl]
      omega
    have := (Nat.log2_lt hne).2 h3
    omega
  have hlow : 4503599627370496 ≤ h.natAbs * 2 ^ (52 - h.natAbs.log2) := by
    have h3 : 2 ^ h.natAbs.log2 * 2 ^ (52 - h.natAbs.log2) ≤ h.natAbs * 2 ^ (52 - h.natAbs.log2) := Nat.mul_le_mul_right _ h1
    rw [← Nat.pow_add, show h.natAbs.log2 + (52 - h.natAbs.log2) = 52 by omega, show (2 : Nat) ^ 52 = 4503599627370496 from rfl] at h3
    exact h3
  have hup : h.natAbs * 2 ^ (52 - h.natAbs.log2) < 9007199254740992 := by
    have h3 : h.natAbs * 2 ^ (52 - h.natAbs.log2) < 2 ^ (h.natAbs.log2 + 1) * 2 ^ (52 - h.natAbs.log2) := Nat.mul_lt_mul_of_pos_right h2 (Nat.two_pow_pos _)
    rw [← Nat.pow_add, show h.natAbs.log2 + 1 + (52 - h.natAbs.log2) = 53 by omega, show (2 : Nat) ^ 53 = 9007199254740992 from rfl] at h3
    exact h3
  refine ⟨h.natAbs * 2 ^ (52 - h.natAbs.log2), h.natAbs.log2, hL, hlow, hup, rfl, ?_, ?_⟩
  · have := write_small (decide (h < 0)) h.natAbs h.natAbs.log2 0 h1 h2 hL (by omega) (by omega)
    rw [Int.zero_add] at this
    exact this
  · have := write_small (decide (h < 0)) h.natAbs h.natAbs.log2 (-1) h1 h2 hL (by omega) (by omega)
    rw [show -1 + (h.natAbs.log2 : Int) - 52 = (h.natAbs.log2 : Int) - 53 by omega] at this
    exact this

theorem read_two : double.read 4611686018427387904 = .number false 4503599627370496 (-51) := by decide
theorem read_low : double.read 14109777632551763968 = .number true 4503599627370496 10 := by decide
theorem read_high : double.read 4886405595696988160 = .number false 4503599627370496 10 := by decide

section
variable {h : Int} (h0 : h ≠ 0) (hb : -9007199254740992 < h ∧ h < 9007199254740992)
include h0 hb
/-- h over two. -/
theorem flt_div : double.div (near h) 4611686018427387904 = some (fhalf h) := by
  obtain ⟨m, L, hL, h1, h2, hm, hn, hf⟩ := forms h h0 hb
  have hr := read_word (decide (h < 0)) m ((L : Int) - 52) h1 h2 (by omega) (by omega)
  have hlog : m.log2 = 52 := log2_eq (by rw [show (2 : Nat) ^ 52 = 4503599627370496 from rfl]; exact h1) (by rw [show (2 : Nat) ^ (52 + 1) = 9007199254740992 from rfl]; exact h2)
  have hl2 : (4503599627370496 : Nat).log2 = 52 := by decide
  have hw := write_shift (decide (h < 0)) m 3 ((L : Int) - 56) h1 h2 (by omega) (by omega)
  unfold Format.div
  rw [hn, hr, read_two, show double.fractionBits + 2 = 54 from rfl]
  unfold Datum.quotient
  dsimp only
  rw [if_neg (by decide), hlog, hl2]
  simp only [Option.map_some, Option.some.injEq, Bool.xor_false, Nat.shiftLeft_eq, show 54 + 52 - 52 = 54 from rfl]
  have hd : m * 2 ^ 54 / 4503599627370496 = m * 4 := by
    rw [show (2 : Nat) ^ 54 = 4 * 4503599627370496 from rfl, ← Nat.mul_assoc]
    exact Nat.mul_div_cancel _ (by decide)
  have hr2 : m * 2 ^ 54 % 4503599627370496 = 0 := by
    rw [show (2 : Nat) ^ 54 = 4 * 4503599627370496 from rfl, ← Nat.mul_assoc]
    exact Nat.mul_mod_left _ _
  rw [hd, hr2]
  have e : 2 * (m * 4) + ((0 : Nat) != 0).toNat = m * 2 ^ 3 := by
    rw [show ((0 : Nat) != 0).toNat = 0 from rfl, show (2 : Nat) ^ 3 = 8 from rfl]
    omega
  rw [e, show (L : Int) - 52 - -51 - ((54 : Nat) : Int) - 1 = (L : Int) - 56 by omega]
  show double.nearest _ _ _ = _
  rw [hw, hf, show (L : Int) - 56 + ((3 : Nat) : Int) = (L : Int) - 53 by omega]
/-- Twice the half. -/
theorem flt_mul : double.mul 4611686018427387904 (fhalf h) = some (near h) := by
  obtain ⟨m, L, hL, h1, h2, hm, hn, hf⟩ := forms h h0 hb
  have hr := read_word (decide (h < 0)) m ((L : Int) - 53) h1 h2 (by omega) (by omega)
  have hw := write_shift (decide (h < 0)) m 52 ((L : Int) - 104) h1 h2 (by omega) (by omega)
  unfold Format.mul
  rw [hf, hr, read_two]
  unfold Datum.product
  simp only [Option.map_some, Option.some.injEq, Bool.false_xor]
  rw [show 4503599627370496 * m = m * 2 ^ 52 by rw [show (2 : Nat) ^ 52 = 4503599627370496 from rfl, Nat.mul_comm], show (-51 : Int) + ((L : Int) - 53) = (L : Int) - 104 by omega]
  show double.nearest _ _ _ = _
  rw [hw, hn, show (L : Int) - 104 + ((52 : Nat) : Int) = (L : Int) - 52 by omega]
theorem near_read : ∃ m L : Nat, L ≤ 52 ∧ m = h.natAbs * 2 ^ (52 - L) ∧ double.read (near h) = .number (decide (h < 0)) m ((L : Int) - 52) := by
  obtain ⟨m, L, hL, h1, h2, hm, hn, hf⟩ := forms h h0 hb
  exact ⟨m, L, hL, hm, by rw [hn]; exact read_word (decide (h < 0)) m ((L : Int) - 52) h1 h2 (by omega) (by omega)⟩
omit h0 hb in
theorem cut_zero (neg : Bool) (m d : Nat) : Toward.zero.cut neg (m * 2 ^ d) d = m := by
  unfold Toward.cut
  by_cases hm : m = 0
  · subst hm
    simp
  · have hlog : d ≤ (m * 2 ^ d).log2 := by
      have hne : m * 2 ^ d ≠ 0 := Nat.mul_ne_zero hm (Nat.pos_iff_ne_zero.1 (Nat.two_pow_pos d))
      refine (Nat.le_log2 hne).2 ?_
      exact Nat.le_mul_of_pos_left _ (Nat.pos_of_ne_zero hm)
    have hmin : min d ((m * 2 ^ d).log2 + 2) = d := by omega
    rw [hmin, Nat.one_shiftLeft]
    have hp := Nat.two_pow_pos d
    simp [Nat.mul_div_cancel _ hp]
theorem near_integral : (double.read (near h)).integral .zero = .number (decide (h < 0)) h.natAbs 0 := by
  obtain ⟨m, L, hL, hm, hr⟩ := near_read h0 hb
  rw [hr]
  unfold Datum.integral
  simp only
  rw [show ((L : Int) - 52).toNat = 0 by omega, show (-((L : Int) - 52)).toNat = 52 - L by omega, Nat.shiftLeft_zero, hm, cut_zero]
/-- An integer cut is itself. -/
theorem flt_trunc : FloatKind.f64.encode ((FloatKind.f64.decode (near h)).integral .zero) = near h := by
  show double.write ((double.read (near h)).integral .zero) = near h
  rw [near_integral h0 hb]
  rfl
theorem flt_int : (FloatKind.f64.decode (near h)).toInt .zero = some h := by
  show (double.read (near h)).toInt .zero = some h
  unfold Datum.toInt
  rw [near_integral h0 hb]
  unfold signed
  simp only [Nat.shiftLeft_zero, Option.some.injEq, decide_eq_true_eq]
  split <;> omega
theorem flt_eq : double.order (near h) (near h) = some .eq := by
  obtain ⟨m, L, hL, hm, hr⟩ := near_read h0 hb
  unfold Format.order
  rw [hr]
  simp [Datum.order]
theorem near_signed : ∃ b : Int, b ≤ 0 ∧ -52 ≤ b ∧ ∃ m : Nat, double.read (near h) = .number (decide (h < 0)) m b ∧ (m : Int) = h.natAbs * 2 ^ (-b).toNat := by
  obtain ⟨m, L, hL, hm, hr⟩ := near_read h0 hb
  refine ⟨(L : Int) - 52, by omega, by omega, m, hr, ?_⟩
  rw [show (-((L : Int) - 52)).toNat = 52 - L by omega, hm]
  simp
theorem flt_gt : double.order (near h) 14109777632551763968 = some .gt := by
  obtain ⟨b, hb0, hb1, m, hr, hm⟩ := near_signed h0 hb
  unfold Format.order
  rw [hr, read_low]
  unfold Datum.order
  simp only [Option.some.injEq]
  rw [show min b (10 : Int) = b by omega, show (b - b).toNat = 0 by omega]
  unfold signed
  simp only [decide_eq_true_eq, Nat.shiftLeft_eq, Nat.pow_zero, Nat.mul_one, if_true]
  have hp : (0 : Int) < 2 ^ (-b).toNat := Int.pow_pos (by decide)
  have e : (10 - b).toNat = 10 + (-b).toNat := by omega
  have hlow : -((4503599627370496 * 2 ^ (10 - b).toNat : Nat) : Int) < (if h < 0 then -(m : Int) else (m : Int)) := by
    rw [e, Nat.pow_add, hm]
    have h3 : (h.natAbs : Int) * 2 ^ (-b).toNat < 4503599627370496 * (1024 * 2 ^ (-b).toNat) := by
      rw [← Int.mul_assoc]
      exact Int.mul_lt_mul_of_pos_right (by omega) hp
    have h4 : (0 : Int) ≤ (h.natAbs : Int) * 2 ^ (-b).toNat := Int.mul_nonneg (by omega) (by omega)
    have h5 : ((4503599627370496 * (2 ^ 10 * 2 ^ (-b).toNat) : Nat) : Int) = 4503599627370496 * (1024 * 2 ^ (-b).toNat) := by
      rw [show (2 : Nat) ^ 10 = 1024 from rfl, Int.natCast_mul, Int.natCast_mul, Int.natCast_pow]
      rfl
    rw [h5]
    split <;> omega
  rw [Int.compare_eq_gt]
  exact hlow
theorem flt_lt : double.order (near h) 4886405595696988160 = some .lt := by
  obtain ⟨b, hb0, hb1, m, hr, hm⟩ := near_signed h0 hb
  unfold Format.order
  rw [hr, read_high]
  unfold Datum.order
  simp only [Option.some.injEq]
  rw [show min b (10 : Int) = b by omega, show (b - b).toNat = 0 by omega]
  unfold signed
  simp only [decide_eq_true_eq, Nat.shiftLeft_eq, Nat.pow_zero, Nat.mul_one, if_false, Bool.false_eq_true]
  have hp : (0 : Int) < 2 ^ (-b).toNat := Int.pow_pos (by decide)
  have e : (10 - b).toNat = 10 + (-b).toNat := by omega
  have hlow : (if h < 0 then -(m : Int) else (m : Int)) < ((4503599627370496 * 2 ^ (10 - b).toNat : Nat) : Int) := by
    rw [e, Nat.pow_add, hm]
    have h3 : (h.natAbs : Int) * 2 ^ (-b).toNat < 4503599627370496 * (1024 * 2 ^ (-b).toNat) := by
      rw [← Int.mul_assoc]
      exact Int.mul_lt_mul_of_pos_right (by omega) hp
    have h4 : (0 : Int) ≤ (h.natAbs : Int) * 2 ^ (-b).toNat := Int.mul_nonneg (by omega) (by omega)
    have h5 : ((4503599627370496 * (2 ^ 10 * 2 ^ (-b).toNat) : Nat) : Int) = 4503599627370496 * (1024 * 2 ^ (-b).toNat) := by
      rw [show (2 : Nat) ^ 10 = 1024 from rfl, Int.natCast_mul, Int.natCast_mul, Int.natCast_pow]
      rfl
    rw [h5]
    split <;> omega
  rw [Int.compare_eq_lt]
  exact hlow
end

end Go.Proofs.YthggnkmlnjlggaaGreatDoor
