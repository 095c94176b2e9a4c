/-
  a // b, on values of the program.
  Conditions: none.
-/
import Derived.Test.YtpoanncombcemaaDoorRes
namespace Go.Proofs.YtpoanncombcemaaDoor
open Go.RowKit

/-- Which of the two. -/
def altJ {α : Type} : J → α → α → α
  | .nil, _, y => y
  | .bool false, _, y => y
  | _, x, _ => x
theorem eq_bool (b : Bool) (w : World) : (binOp .eql 20 (.iface 4 (.bool b)) (.iface 4 (.bool false))).run Tryd.prog w = .ok (.bool (!b)) w := by cases b <;> kernel_rfl
theorem eq_other {t : TypeId} (ht : t ≠ 4) (v : Value) (w : World) : (binOp .eql 20 (.iface t v) (.iface 4 (.bool false))).run Tryd.prog w = .ok (.bool false) w :=
  run_eql_iface_types _ _ _ _ Tryd.underlying20 ht w
theorem alt_any {w0 : World} {ok : Nat → Prop} {a : J} {x : Value} (h : KJ w0 ok a x) (y : Value) (w : World) : Calls Tryd.prog 45 #[.nilIface, x, y] w fun e w' => e = .returned (altJ a x y) ∧ Old w w' := by
  cases h with
  | nil =>
    go_enter Tryd.func45, Tryd.ntmps45
    go_wp2
    go_ret
    exact ⟨rfl, Old.refl _⟩
  | bool b =>
    have he := eq_bool b
    cases b
    · go_enter Tryd.func45, Tryd.ntmps45
      go_wp2
      go_ret
      exact ⟨rfl, Old.refl _⟩
    · go_enter Tryd.func45, Tryd.ntmps45
      go_wp2
      go_ret
      exact ⟨rfl, Old.refl _⟩
  | int n =>
    have he := fun v w => eq_other (t := 3) (by decide) v w
    go_enter Tryd.func45, Tryd.ntmps45
    go_wp2
    go_ret
    exact ⟨rfl, Old.refl _⟩
  | flt n =>
    have he := fun v w => eq_other (t := 64) (by decide) v w
    go_enter Tryd.func45, Tryd.ntmps45
    go_wp2
    go_ret
    exact ⟨rfl, Old.refl _⟩
  | str n =>
    have he := fun v w => eq_other (t := 9) (by decide) v w
    go_enter Tryd.func45, Tryd.ntmps45
    go_wp2
    go_ret
    exact ⟨rfl, Old.refl _⟩
  | arr l v X s r =>
    have he := fun v w => eq_other (t := 65) (by decide) v w
    clear s r
    go_enter Tryd.func45, Tryd.ntmps45
    go_wp2
    go_ret
    exact ⟨rfl, Old.refl _⟩
  | obj ks vs b xs hb hm hx r =>
    have he := fun v w => eq_other (t := 58) (by decide) v w
    clear hb hm hx r
    go_enter Tryd.func45, Tryd.ntmps45
    go_wp2
    go_ret
    exact ⟨rfl, Old.refl _⟩
theorem zalt_any {w0 : World} {ok : Nat → Prop} {a : J} {x : Value} (h : KJ w0 ok a x) (y : Value) (w : World) : Calls Tryd.prog 33 #[x, y] w fun e w' => e = .returned (altJ a x y) ∧ Old w w' := by
  have H := Lib.hid h
  clear h
  go_enter Tryd.func33, Tryd.ntmps33
  go_wp2_with (go_at_call 45; go_must (refine (alt_any H.out _ _).mono ?_; rintro e w2 ⟨rfl, ho⟩; have HO := Lib.hid ho; clear ho))
  go_ret
  exact ⟨rfl, HO.out⟩
theorem truthy_any (w : World) (k h : Int) (t : ByteArray) (v1 v2 v3 : Value) : Calls Tryd.prog 10 #[.agg #[.int .i64 k, .int .i64 h, .string t, v1, v2, v3]] w fun e w' => e = .returned (.bool (decide (k ≠ 0 ∧ k ≠ 1))) ∧ Old w w' := by
  by_cases h0 : k = 0
  · subst h0
    go_enter Tryd.func10, Tryd.ntmps10
    go_wp2
    go_ret
    exact ⟨rfl, (Old.refl w).alloc _⟩
  · by_cases h1 : k = 1
    · subst h1
      go_enter Tryd.func10, Tryd.ntmps10
      go_wp2
      go_ret
      exact ⟨rfl, (Old.refl w).alloc _⟩
    · have e : decide (k ≠ 0 ∧ k ≠ 1) = true := by simp [h0, h1]
      rw [e]
      go_enter Tryd.func10, Tryd.ntmps10
      go_wp2
      go_ret
      exact ⟨by simp [h0, h1], (Old.refl w).alloc _⟩
end Go.Proofs.YtpoanncombcemaaDoor
