/-
  A row of @tsv is read back as the texts of its elements: cut at tabs, with what is escaped written out.
  Conditions: none.
-/
import Derived.Test.YthggnkmlnjlggaaGreatDoorLaid
import Derived.Test.YthggnkmlnjlggaaGreatDoorLaw12
import Derived.Test.YthggnkmlnjlggaaGreatDoorCards
namespace Go.Proofs.YthggnkmlnjlggaaGreatDoor.fnTSVBack
open Go.ChangeShapes Go.WideShapes Go.ChangeAt Go.RowKit Go.Deep

set_option maxRecDepth 100000 in
theorem lifted (os : Os) (started : os.Started) (H : Type) (enc : TypeId × Value → H) :
    ReturnsInHanded {} Tryz.checked os 4 .any (fun w args => (Rows.fnTSVBackSpec.pre enc Tryz.prog Tryz.f4 Rows.fnTSVBackRow.domain false w args ∧ laidMetH Tryz.prog laid2 w) ∧ sizedMet enc Tryz.prog Tryz.f4 (OpenSpec.ofChange Rows.fnTSVBackSpec) false w args)
      (Rows.fnTSVBackSpec.post enc Tryz.prog Tryz.f4 false true false false) := by
  refine returnsInHanded_of_change_and (C := Tryz.checked) (X := fun w _ => laidMetH Tryz.prog laid2 w) (fun _ _ _ hh h => h.of_heap hh) own started (by kernel_rfl) Tryz.func4
    (ChangeSpec.witness_shaped (enc := enc) (C := Tryz.checked) (os := os) (X := fun w _ => laidMetH Tryz.prog laid2 w) false (World.laidAll Tryz.prog os laid2) #[.slice none 0 0] 8 (World.laidAll_os _ _ _)
      (World.shaped_of_ZipB (by kernel_rfl) (by kernel_rfl)) (by kernel_rfl) (by kernel_rfl) (by kernel_rfl) (met_start os _)) ?_
  intro W base args ds gs before hval0 hW hc hwt hL _
  have hval : ∀ (j : Nat) t v, Tryz.f4.params[j]? = some t → args[j]? = some v → Value.okWide Tryz.prog W .any base t v := hval0
  have hW' := hW
  obtain ⟨p, q, hA0, hV, rfl, _, _⟩ := hW
  have hA : DataW.TrodAll enc Tryz.prog W 0 (fun _ => true) true Tryz.f4.params.toList args.toList ds p := hA0
  rw [Tryz.params4] at hA hval
  obtain ⟨v0, d0, rfl, rfl, h0⟩ := trodAll_one hA
  obtain ⟨rfl, rfl⟩ := trodVars_none hV
  have hw0 : Reached 23 d0 := fun n hn => by
    have h := List.all_eq_true.1 hwt n (DataW.weights_mem_each (j := 0) (t := 23) (d := d0) (by rw [Tryz.params4]; rfl) rfl n hn)
    simpa using h
  obtain ⟨x0, z0, b0, k0⟩ := arg_list (hval 0 23 v0 rfl rfl) h0 hw0
  have lt0 : ∀ x ∈ p, x.block < W.heap.size := by
    obtain ⟨m, hm⟩ := h0
    exact DataW.trod_lt m _ _ _ hm
  clear hA0 hval0
  refine (law12_any z0 b0 W _ _ k0 (tabs_laid hL)).mono fun e W' ⟨he, hold⟩ => ?_
  subst he
  have bel := hold.below
  exact ⟨_, rfl, _, _, _, [], _, [], hW', trodAll_mk1 (shut_bool Tryz.underlying4 _), (trodAll_cons_mk (Below.trod laidOut (by kernel_rfl) (of_decide_eq_true (by kernel_rfl)) h0 bel lt0) trodAll_mk0), rfl, bel.frame _, fun h => by cases h⟩

theorem over : Rows.FnTSVBackSaid :=
  OpenClaim.holds_of_wide 4 Tryz.f4 rfl rfl rfl rfl rfl rfl rfl ⟨rfl, rfl, rfl, rfl, rfl⟩ rfl rfl rfl rfl rfl (by kernel_rfl) Tryz.func4 (by kernel_rfl)
    (of_decide_eq_true (by kernel_rfl)) (by unfold Func.isWrapper; first | (rw [if_pos (by decide +kernel)]; kernel_rfl) | (rw [if_neg (by decide +kernel)]; exact ⟨rfl, rfl⟩))
    (fun os started H enc _ => lifted os started H enc)

/-- ████ THE CARD ████ -/
theorem fnTSVBack_card : Rows.FnTSVBackCardSaid :=
  Claim7.holds_tied_plain_at .later [] [.data, .pinned] true Rows.fnTSVBackCard.stood.harness Rows.fnTSVBackCard.stood.looks over (fun _ h => by cases h) (by kernel_rfl) (fun _ h => by cases h) fnTSVBack_row_tie rfl ⟨rfl, rfl⟩ (by kernel_rfl) rfl
    (fun f fn hf hfn => by
      obtain rfl : f = 4 := Option.some.inj ((show Tryz.prog.funcNamed "pub-strainer/laws.FnTSVBack" = some 4 by kernel_rfl).symm.trans hf) |>.symm
      obtain rfl : fn = Tryz.f4 := (Option.some.inj (Tryz.func4.symm.trans hfn)).symm
      exact ⟨by kernel_rfl, fun j t ht => by
        rw [Tryz.params4] at ht
        have hm : t ∈ [23] := by simpa using Array.mem_of_getElem? ht
        have hall : ([23].all fun u => !Tryz.prog.wantsStandIn u) = true := by kernel_rfl
        exact (show Tryz.prog.wantsStandIn t = false by simpa using List.all_eq_true.1 hall t hm)⟩)
    (by kernel_rfl)
#print axioms fnTSVBack_card
end Go.Proofs.YthggnkmlnjlggaaGreatDoor.fnTSVBack
namespace Go.Proofs.YthggnkmlnjlggaaGreatDoor
/-- The card, under a short name, for the claim. -/
theorem fnTSVBack_holds : Rows.FnTSVBackCardSaid := fnTSVBack.fnTSVBack_card
end Go.Proofs.YthggnkmlnjlggaaGreatDoor
