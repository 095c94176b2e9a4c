/-
  A value of the program as the package hands it back: numbers.
  Conditions: the value is right.
-/
import Derived.Test.YtehfmaiogbehgaaDoorToGo2
import Derived.Laws.FloatArith
import Derived.Laws.Externs
namespace Go.Proofs.YtehfmaiogbehgaaDoor
open Go.RowKit

theorem run_archTrunc {h : Int} (h0 : h ≠ 0) (hb : -9007199254740992 < h ∧ h < 9007199254740992) (w : World) : (callFunc 32 #[.float .f64 (near h)]).run Tryd.prog w = .ok (.value (.float .f64 (near h))) w := by
  rw [run_callFunc_extern Tryd.func32 (by kernel_rfl) (by kernel_rfl) (by kernel_rfl) (e := Extern.MathFloor.toIntegral "math.archTrunc" .zero) (by kernel_rfl)]
  have ht := flt_trunc h0 hb
  obtain ⟨m, L, hL, hm, hr⟩ := near_read h0 hb
  have hd : FloatKind.f64.decode (near h) = .number (decide (h < 0)) m ((L : Int) - 52) := hr
  have : (Extern.MathFloor.toIntegral "math.archTrunc" .zero #[.float .f64 (near h)]).run Tryd.prog w = .ok (.float .f64 (near h)) w := by
    delta Extern.MathFloor.toIntegral
    rw [hd] at ht
    show Sem.run _ (Extern.MathFloor.toIntegral.match_1 (fun _ => Sem Value) (FloatKind.f64.decode (near h)) _ _) _ = _
    rw [hd]
    show Sem.run _ (pure (Value.float .f64 (FloatKind.f64.encode (Ieee.Datum.integral .zero (.number (decide (h < 0)) m ((L : Int) - 52)))))) _ = _
    rw [ht]
    rfl
  rw [this]
  rfl

theorem trunc_any {h : Int} (h0 : h ≠ 0) (hb : -9007199254740992 < h ∧ h < 9007199254740992) (w : World) : Calls Tryd.prog 28 #[.float .f64 (near h)] w fun e w' => e = .returned (.float .f64 (near h)) ∧ w' = w := by
  have hx := run_archTrunc h0 hb
  clear h0 hb
  go_enter Tryd.func28, Tryd.ntmps28
  go_wp2
  go_ret
  exact ⟨rfl, rfl⟩

def numV (h : Int) : Array Value := #[.int .i64 3, .int .i64 h, .string nilS, .slice none 0 0, .slice none 0 0, .slice none 0 0]

theorem half_any {h : Int} (h0 : h ≠ 0) (hb : -9007199254740992 < h ∧ h < 9007199254740992) (w : World) : Calls Tryd.prog 24 #[.float .f64 (near h)] w fun e w' => e = .returned (.tuple #[.agg (numV h), .bool true]) ∧ Old w w' := by
  have HB := Lib.hid hb
  have H0 := Lib.hid h0
  have e1 : (FloatKind.f64.format.order (near h) (near h) != some .eq) = false := by
    have e : FloatKind.f64.format.order (near h) (near h) = some .eq := flt_eq h0 hb
    rw [e]; rfl
  have e2 : (FloatKind.f64.format.order (near h) 14109777632551763968 == some .lt || FloatKind.f64.format.order (near h) 14109777632551763968 == some .eq) = false := by
    have e : FloatKind.f64.format.order (near h) 14109777632551763968 = some .gt := flt_gt h0 hb
    rw [e]; rfl
  have e3 : (FloatKind.f64.format.order (near h) 4886405595696988160 == some .gt || FloatKind.f64.format.order (near h) 4886405595696988160 == some .eq) = false := by
    have e : FloatKind.f64.format.order (near h) 4886405595696988160 = some .lt := flt_lt h0 hb
    rw [e]; rfl
  have e4 : ∀ w, (convert 69 3 (.float .f64 (near h))).run Tryd.prog w = .ok (.int .i64 h) w := fun w => run_convert_float_int w _ _ _ _ _ _ (by kernel_rfl) (by kernel_rfl) (by
    unfold floatToIntVal
    rw [flt_int h0 hb]
    exact if_pos ⟨by show (-9223372036854775808 : Int) ≤ h; omega, by show h ≤ (9223372036854775807 : Int); omega⟩)
  clear h0 hb
  go_enter Tryd.func24, Tryd.ntmps24
  go_wp2_with (go_at_call 28; refine (trunc_any H0.out HB.out _).mono ?_; rintro e w2 ⟨rfl, rfl⟩)
  refine bodyPost_ret (v := .tuple #[.agg (numV h), .bool true]) (by simp [results, Tryd.results24, numV, nilS, go_sem]) rfl ?_
  exact ⟨rfl, (Old.refl _).alloc _⟩
end Go.Proofs.YtehfmaiogbehgaaDoor
