/-
  ascii_downcase and ascii_upcase turn the letters a to z and A to Z of a string, and nothing else; an error for what is no string.
  Conditions: none.
-/
import Derived.Test.YtpoanncombcemaaDoorLaid
import Derived.Test.YtpoanncombcemaaDoorLaw7
import Derived.Test.YtpoanncombcemaaDoorCards
namespace Go.Proofs.YtpoanncombcemaaDoor.fnCase
open Go.ChangeShapes Go.WideShapes Go.ChangeAt Go.RowKit Go.Deep

set_option maxRecDepth 100000 in
theorem lifted (os : Os) (started : os.Started) (H : Type) (enc : TypeId × Value → H) :
    ReturnsInHanded {} Tryd.checked os 7 .any (fun w args => (Rows.fnCaseSpec.pre enc Tryd.prog Tryd.f7 Rows.fnCaseRow.domain false w args ∧ laidMetH Tryd.prog laid2 w) ∧ sizedMet enc Tryd.prog Tryd.f7 (OpenSpec.ofChange Rows.fnCaseSpec) false w args)
      (Rows.fnCaseSpec.post enc Tryd.prog Tryd.f7 false true false false) := by
  refine returnsInHanded_of_change_and (C := Tryd.checked) (X := fun w _ => laidMetH Tryd.prog laid2 w) (fun _ _ _ hh h => h.of_heap hh) own started (by kernel_rfl) Tryd.func7
    (ChangeSpec.witness_shaped (enc := enc) (C := Tryd.checked) (os := os) (X := fun w _ => laidMetH Tryd.prog laid2 w) false (World.laidAll Tryd.prog os laid2) #[.agg #[.int .i64 0, .int .i64 0, .string ⟨#[]⟩, .slice none 0 0, .slice none 0 0, .slice none 0 0]] 8 (World.laidAll_os _ _ _)
      (World.shaped_of_ZipB (by kernel_rfl) (by kernel_rfl)) (by kernel_rfl) (by kernel_rfl) (by kernel_rfl) (met_start os _)) ?_
  intro W base args ds gs before hval0 hW hc _ hL _
  have hval : ∀ (j : Nat) t v, Tryd.f7.params[j]? = some t → args[j]? = some v → Value.okWide Tryd.prog W .any base t v := hval0
  have hW' := hW
  obtain ⟨p, q, hA0, hV, rfl, _, _⟩ := hW
  have hA : DataW.TrodAll enc Tryd.prog W 0 (fun _ => true) true Tryd.f7.params.toList args.toList ds p := hA0
  rw [Tryd.params7] at hA hval
  obtain ⟨v0, d0, rfl, rfl, h0⟩ := trodAll_one hA
  obtain ⟨rfl, rfl⟩ := trodVars_none hV
  obtain ⟨x0, a0, b0, c0, e0, f0, g0, rfl, z0, k0⟩ := arg_value (hval 0 26 v0 rfl rfl) h0
  have lt0 : ∀ x ∈ p, x.block < W.heap.size := by
    obtain ⟨m, hm⟩ := h0
    exact DataW.trod_lt m _ _ _ hm
  clear hA0 hval0
  refine (law7_any z0 W _ _ _ _ _ _ _ k0 (tabs_laid hL)).mono fun e W' ⟨he, hold⟩ => ?_
  subst he
  have bel := hold.below
  exact ⟨_, rfl, _, _, _, [], _, [], hW', trodAll_mk1 (shut_bool Tryd.underlying4 _), (trodAll_cons_mk (Below.trod laidOut (by kernel_rfl) (of_decide_eq_true (by kernel_rfl)) h0 bel lt0) trodAll_mk0), rfl, bel.frame _, fun h => by cases h⟩

theorem over : Rows.FnCaseSaid :=
  OpenClaim.holds_of_wide 7 Tryd.f7 rfl rfl rfl rfl rfl rfl rfl ⟨rfl, rfl, rfl, rfl, rfl⟩ rfl rfl rfl rfl rfl (by kernel_rfl) Tryd.func7 (by kernel_rfl)
    (of_decide_eq_true (by kernel_rfl)) (by unfold Func.isWrapper; first | (rw [if_pos (by decide +kernel)]; kernel_rfl) | (rw [if_neg (by decide +kernel)]; exact ⟨rfl, rfl⟩))
    (fun os started H enc _ => lifted os started H enc)

/-- ████ THE CARD ████ -/
theorem fnCase_card : Rows.FnCaseCardSaid :=
  Claim7.holds_tied_plain_at .later [] [.data, .pinned] true Rows.fnCaseCard.stood.harness Rows.fnCaseCard.stood.looks over (fun _ h => by cases h) (by kernel_rfl) (fun _ h => by cases h) fnCase_row_tie rfl ⟨rfl, rfl⟩ (by kernel_rfl) rfl
    (fun f fn hf hfn => by
      obtain rfl : f = 7 := Option.some.inj ((show Tryd.prog.funcNamed "pub-strainer/laws.FnCase" = some 7 by kernel_rfl).symm.trans hf) |>.symm
      obtain rfl : fn = Tryd.f7 := (Option.some.inj (Tryd.func7.symm.trans hfn)).symm
      exact ⟨by kernel_rfl, fun j t ht => by
        rw [Tryd.params7] at ht
        have hm : t ∈ [26] := by simpa using Array.mem_of_getElem? ht
        have hall : ([26].all fun u => !Tryd.prog.wantsStandIn u) = true := by kernel_rfl
        exact (show Tryd.prog.wantsStandIn t = false by simpa using List.all_eq_true.1 hall t hm)⟩)
    (by kernel_rfl)
#print axioms fnCase_card
end Go.Proofs.YtpoanncombcemaaDoor.fnCase
namespace Go.Proofs.YtpoanncombcemaaDoor
/-- The card, under a short name, for the claim. -/
theorem fnCase_holds : Rows.FnCaseCardSaid := fnCase.fnCase_card
end Go.Proofs.YtpoanncombcemaaDoor
