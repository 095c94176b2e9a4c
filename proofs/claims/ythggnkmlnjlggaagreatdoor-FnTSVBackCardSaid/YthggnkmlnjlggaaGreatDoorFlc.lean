/-
  Halves of odd numbers compared with the constants of the encoder: plain.
  Conditions: none.
-/
import Derived.Test.YthggnkmlnjlggaaGreatDoorFlt
import GoSem.Dispatch
namespace Go.Proofs.YthggnkmlnjlggaaGreatDoor
open Ieee

theorem fhalf_read {h : Int} (h0 : h ≠ 0) (hb : -9007199254740992 < h ∧ h < 9007199254740992) : ∃ m L : Nat, L ≤ 52 ∧ 4503599627370496 ≤ m ∧ m < 9007199254740992 ∧ double.read (fhalf h) = .number (decide (h < 0)) m ((L : Int) - 53) := by
  obtain ⟨m, L, hL, h1, h2, _, _, hf⟩ := forms h h0 hb
  refine ⟨m, L, hL, h1, h2, ?_⟩
  rw [hf]
  exact read_word _ m ((L : Int) - 53) h1 h2 (by omega) (by omega)
theorem signed_le (s : Bool) (m k : Nat) : -((m * 2 ^ k : Nat) : Int) ≤ signed s m k ∧ signed s m k ≤ ((m * 2 ^ k : Nat) : Int) := by
  unfold signed
  rw [Nat.shiftLeft_eq]
  generalize m * 2 ^ k = X
  cases s
  · constructor
    · show -(X : Int) ≤ (X : Int); omega
    · show (X : Int) ≤ (X : Int); omega
  · constructor
    · show -(X : Int) ≤ -(X : Int); omega
    · show -(X : Int) ≤ (X : Int); omega
theorem signed_pos (m k : Nat) : signed false m k = ((m * 2 ^ k : Nat) : Int) := by
  unfold signed
  rw [Nat.shiftLeft_eq]
  simp
theorem signed_neg (m k : Nat) : signed true m k = -((m * 2 ^ k : Nat) : Int) := by
  unfold signed
  rw [Nat.shiftLeft_eq]
  simp
theorem pow_ge {k : Nat} (j : Nat) (h : j ≤ k) : 2 ^ j ≤ 2 ^ k := Nat.pow_le_pow_right (by decide) h
theorem read_max : double.read 9218868437227405311 = .number false 9007199254740991 971 := by decide
theorem read_min : double.read 18442240474082181119 = .number true 9007199254740991 971 := by decide
theorem read_micro : double.read 4517329193108106637 = .number false 4722366482869645 (-72) := by decide
theorem read_big : double.read 4921056587992461136 = .number false 7629394531250000 17 := by decide
theorem read_zero : double.read 0 = .number false 0 (-1074) := by decide
section
variable {h : Int} (h0 : h ≠ 0) (hb : -9007199254740992 < h ∧ h < 9007199254740992)
include h0 hb
theorem half_self : double.order (fhalf h) (fhalf h) = some .eq := by
  obtain ⟨m, L, hL, h1, h2, hr⟩ := fhalf_read h0 hb
  unfold Format.order
  rw [hr]
  simp [Datum.order]
theorem half_min : double.order (fhalf h) 18442240474082181119 = some .gt := by
  obtain ⟨m, L, hL, h1, h2, hr⟩ := fhalf_read h0 hb
  unfold Format.order
  rw [hr, read_min]
  unfold Datum.order
  simp only [Option.some.injEq]
  rw [show min ((L : Int) - 53) 971 = (L : Int) - 53 by omega, show ((L : Int) - 53 - ((L : Int) - 53)).toNat = 0 by omega, Int.compare_eq_gt, signed_neg]
  have h3 := (signed_le (decide (h < 0)) m 0).1
  have h4 := pow_ge (k := (971 - ((L : Int) - 53)).toNat) 1 (by omega)
  generalize 2 ^ (971 - ((L : Int) - 53)).toNat = P at *
  have h5 : 9007199254740991 * 2 ^ 1 ≤ 9007199254740991 * P := Nat.mul_le_mul_left _ h4
  generalize signed (decide (h < 0)) m 0 = S at *
  omega
theorem half_max : double.order (fhalf h) 9218868437227405311 = some .lt := by
  obtain ⟨m, L, hL, h1, h2, hr⟩ := fhalf_read h0 hb
  unfold Format.order
  rw [hr, read_max]
  unfold Datum.order
  simp only [Option.some.injEq]
  rw [show min ((L : Int) - 53) 971 = (L : Int) - 53 by omega, show ((L : Int) - 53 - ((L : Int) - 53)).toNat = 0 by omega, Int.compare_eq_lt, signed_pos]
  have h3 := (signed_le (decide (h < 0)) m 0).2
  have h4 := pow_ge (k := (971 - ((L : Int) - 53)).toNat) 1 (by omega)
  generalize 2 ^ (971 - ((L : Int) - 53)).toNat = P at *
  have h5 : 9007199254740991 * 2 ^ 1 ≤ 9007199254740991 * P := Nat.mul_le_mul_left _ h4
  generalize signed (decide (h < 0)) m 0 = S at *
  omega
theorem half_micro (hp : 0 < h) : double.order (fhalf h) 4517329193108106637 = some .gt := by
  obtain ⟨m, L, hL, h1, h2, hr⟩ := fhalf_read h0 hb
  unfold Format.order
  rw [hr, read_micro]
  unfold Datum.order
  simp only [Option.some.injEq]
  have hd : decide (h < 0) = false := decide_eq_false (by omega)
  rw [hd, show min ((L : Int) - 53) (-72) = -72 by omega, show ((-72 : Int) - -72).toNat = 0 by omega, Int.compare_eq_gt, signed_pos, signed_pos]
  have h4 := pow_ge (k := ((L : Int) - 53 - -72).toNat) 1 (by omega)
  generalize 2 ^ ((L : Int) - 53 - -72).toNat = P at *
  have h5 : 4503599627370496 * 2 ^ 1 ≤ m * P := Nat.mul_le_mul h1 h4
  omega
theorem half_big (hp : 0 < h) : double.order (fhalf h) 4921056587992461136 = some .lt := by
  obtain ⟨m, L, hL, h1, h2, hr⟩ := fhalf_read h0 hb
  unfold Format.order
  rw [hr, read_big]
  unfold Datum.order
  simp only [Option.some.injEq]
  have hd : decide (h < 0) = false := decide_eq_false (by omega)
  rw [hd, show min ((L : Int) - 53) 17 = (L : Int) - 53 by omega, show ((L : Int) - 53 - ((L : Int) - 53)).toNat = 0 by omega, Int.compare_eq_lt, signed_pos, signed_pos]
  have h4 := pow_ge (k := (17 - ((L : Int) - 53)).toNat) 1 (by omega)
  generalize 2 ^ (17 - ((L : Int) - 53)).toNat = P at *
  have h5 : 7629394531250000 * 2 ^ 1 ≤ 7629394531250000 * P := Nat.mul_le_mul_left _ h4
  omega
theorem half_zero (hp : 0 < h) : double.order (fhalf h) 0 = some .gt := by
  obtain ⟨m, L, hL, h1, h2, hr⟩ := fhalf_read h0 hb
  unfold Format.order
  rw [hr, read_zero]
  unfold Datum.order
  simp only [Option.some.injEq]
  have hd : decide (h < 0) = false := decide_eq_false (by omega)
  rw [hd, show min ((L : Int) - 53) (-1074) = -1074 by omega, show ((-1074 : Int) - -1074).toNat = 0 by omega, Int.compare_eq_gt, signed_pos, signed_pos]
  have h4 := pow_ge (k := ((L : Int) - 53 - -1074).toNat) 1 (by omega)
  generalize 2 ^ ((L : Int) - 53 - -1074).toNat = P at *
  have h5 : 4503599627370496 * 2 ^ 1 ≤ m * P := Nat.mul_le_mul h1 h4
  omega
theorem run_max_half {P : Program} (w : World) (ts : Array TypeId) (t : TypeId) : (Builtin.max_ ts t #[.float .f64 (fhalf h), .float .f64 18442240474082181119]).run P w = .ok (.float .f64 (fhalf h)) w := by
  have := half_min h0 hb
  simp only [Builtin.max_, List.foldlM_cons, List.foldlM_nil, Builtin.max2]
  rw [show FloatKind.f64.format = double from rfl, this]
  rfl
theorem run_min_half {P : Program} (w : World) (ts : Array TypeId) (t : TypeId) : (Builtin.min_ ts t #[.float .f64 (fhalf h), .float .f64 9218868437227405311]).run P w = .ok (.float .f64 (fhalf h)) w := by
  have := half_max h0 hb
  simp only [Builtin.min_, List.foldlM_cons, List.foldlM_nil, Builtin.min2]
  rw [show FloatKind.f64.format = double from rfl, this]
  rfl
end
end Go.Proofs.YthggnkmlnjlggaaGreatDoor
