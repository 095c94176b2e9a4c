/-
  The absolute value of half an integer; of an integer.
  Conditions: none.
-/
import Derived.Test.YthggnkmlnjlggaaGreatDoorMem
import Derived.Test.YthggnkmlnjlggaaGreatDoorHeld
import Derived.Deep.Cut
import Derived.Deep.CutRange
import Derived.Deep.DeepCutAuto
import Derived.Deep.Light
import Derived.Deep.RegionLaw
import Derived.Deep.DrawnRows
import Derived.Deep.DeepMust
import Derived.Laws.Externs
import Derived.Laws.BitsAll
namespace Go.Proofs.YthggnkmlnjlggaaGreatDoor
open Go.RowKit Ieee

theorem fhalf_word {h : Int} (h0 : h ≠ 0) (hb : -9007199254740992 < h ∧ h < 9007199254740992) : ∃ R : Nat, R < 9223372036854775808 ∧ fhalf h = double.word (decide (h < 0)) R ∧ fhalf (h.natAbs : Int) = double.word false R := by
  have hne : h.natAbs ≠ 0 := by omega
  have h1 := Nat.log2_self_le hne
  have h2 := Nat.lt_log2_self (n := h.natAbs)
  have hL : h.natAbs.log2 ≤ 52 := by
    have h3 : h.natAbs < 2 ^ 53 := by
      rw [show (2 : Nat) ^ 53 = 9007199254740992 from rfl]
      omega
    have := (Nat.log2_lt hne).2 h3
    omega
  have hup : h.natAbs * 2 ^ (52 - h.natAbs.log2) < 9007199254740992 := by
    have h3 : h.natAbs * 2 ^ (52 - h.natAbs.log2) < 2 ^ (h.natAbs.log2 + 1) * 2 ^ (52 - h.natAbs.log2) := Nat.mul_lt_mul_of_pos_right h2 (Nat.two_pow_pos _)
    rw [← Nat.pow_add, show h.natAbs.log2 + 1 + (52 - h.natAbs.log2) = 53 by omega, show (2 : Nat) ^ 53 = 9007199254740992 from rfl] at h3
    exact h3
  refine ⟨(-1 + (h.natAbs.log2 : Int) - 52 + 1074).toNat * 4503599627370496 + h.natAbs * 2 ^ (52 - h.natAbs.log2), ?_, ?_, ?_⟩
  · generalize h.natAbs * 2 ^ (52 - h.natAbs.log2) = m at *
    omega
  · exact write_small (decide (h < 0)) h.natAbs h.natAbs.log2 (-1) h1 h2 hL (by omega) (by omega)
  · have e := write_small false h.natAbs h.natAbs.log2 (-1) h1 h2 hL (by omega) (by omega)
    have hd : decide ((h.natAbs : Int) < 0) = false := by simp
    unfold fhalf
    rw [hd, Int.natAbs_natCast]
    exact e
theorem and_low {h : Int} (h0 : h ≠ 0) (hb : -9007199254740992 < h ∧ h < 9007199254740992) : fhalf h &&& (18446744073709551615 - 9223372036854775808) = fhalf (h.natAbs : Int) ∧ fhalf h < 18446744073709551616 := by
  obtain ⟨R, hR, e1, e2⟩ := fhalf_word h0 hb
  have hw : ∀ neg : Bool, double.word neg R = if neg = true then 9223372036854775808 + R else R := fun neg => by
    unfold Format.word
    rw [dbl_sign]
  have h63 : (18446744073709551615 - 9223372036854775808 : Nat) = 2 ^ 63 - 1 := by decide
  rw [h63, Nat.and_two_pow_sub_one_eq_mod, e1, e2, hw, hw, show (2 : Nat) ^ 63 = 9223372036854775808 from rfl]
  by_cases hd : h < 0
  · simp only [hd, decide_true, if_true, Bool.false_eq_true, if_false]
    omega
  · simp only [hd, decide_false, Bool.false_eq_true, if_false]
    omega

theorem abs_any {h : Int} (h0 : h ≠ 0) (hb : -9007199254740992 < h ∧ h < 9007199254740992) (w : World) : Calls Tryz.prog 72 #[.float .f64 (fhalf h)] w fun e w' => e = .returned (.float .f64 (fhalf (h.natAbs : Int))) ∧ w' = w := by
  obtain ⟨ha, hl⟩ := and_low h0 hb
  generalize fhalf (h.natAbs : Int) = M at *
  generalize fhalf h = N at *
  have h1 : ∀ w, (callFunc 74 #[.float .f64 N]).run Tryz.prog w = .ok (.value (.int .u64 N)) w := fun w => by
    rw [run_callFunc_extern Tryz.func74 (by kernel_rfl) (by kernel_rfl) (by kernel_rfl) (e := Extern.MathFloatBits.float64bits) (by kernel_rfl)]
    rfl
  have h2 : ∀ w, (callFunc 75 #[.int .u64 (M : Nat)]).run Tryz.prog w = .ok (.value (.float .f64 M)) w := fun w => by
    rw [run_callFunc_extern Tryz.func75 (by kernel_rfl) (by kernel_rfl) (by kernel_rfl) (e := Extern.MathFloatBits.float64frombits) (by kernel_rfl)]
    rfl
  have h3 : bits .andNot .u64 (N : Int) 9223372036854775808 = (M : Int) := by
    have := u64_andNot_nat N 9223372036854775808 hl (by decide)
    rw [ha] at this
    exact this
  clear ha hl h0 hb
  go_enter Tryz.func72, Tryz.ntmps72
  go_wp2
  go_ret
  exact ⟨rfl, rfl⟩

end Go.Proofs.YthggnkmlnjlggaaGreatDoor
