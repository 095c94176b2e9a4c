/-
  Calls on a stack that can be saved and restored say what a list says of which the last element is taken first; a restore makes it what it was at the save.
  Conditions: none.
-/
import Derived.Test.YtaehbephmjolcaaStkFn
import Derived.OpenShut
import Derived.ShutString
import Derived.ChangeOld
import Derived.SizedLaws
import Derived.Deep.SlicePairs
namespace Go.Proofs.Ytaehbephmjolcaa.fnStack
open Go.ChangeShapes Go.WideShapes Go.ChangeAt Go.RowKit Go.Deep
set_option linter.unusedVariables false

theorem own : ownKnob Try.prog.godebug = none := by kernel_rfl
theorem laidOut : laidOutB Try.prog = true := by kernel_rfl

theorem walk (w : World) (A : Option Addr) (c : Nat) (ops : List (Int × Int)) (hr : Calls_ w A ops) (hm : ops.length ≤ 9223372036854775807) :
    Calls Try.prog 4 #[.slice A ops.length c] w (Yes w) := by
  by_cases hn : ops.length ≤ 1000
  · exact law_any w A c ops hn hr
  · by_cases h2 : ops.length ≤ 2147483647
    · have h3 : 1000 < ops.length := by omega
      clear hn
      go_enter Try.func4, Try.ntmps4
      go_wp2
      go_ret
      exact ⟨rfl, Below.refl _ _⟩
    · have h3 : 2147483647 < ops.length := by omega
      clear hn h2
      go_enter Try.func4, Try.ntmps4
      go_wp2
      go_ret
      exact ⟨rfl, Below.refl _ _⟩

theorem opened {H : Type} {enc : TypeId × Value → H} {W : World} {fuel : Nat} {v : Value} {d : DataW H} {p : List MemPlace} {A : Option Addr} {len cap : Nat}
    (h : DataW.trod enc Try.prog W 0 (fun _ => true) true fuel 24 [.slice A len cap] = some (d, p)) : ∃ ops : List (Int × Int), ops.length = len ∧ Calls_ W A ops ∧ len ≤ 9223372036854775807 := by
  rcases open_slice_pairs Try.underlying24 Try.underlying32 (by kernel_rfl) rfl rfl (by kernel_rfl) (by kernel_rfl) h with ⟨hcs, _⟩ | ⟨a, l, c, m, n, V0, V1, D0, D1, P0, P1, hcs, _, hl, hm, hmm, _, hx⟩
  · simp at hcs
    obtain ⟨rfl, rfl, rfl⟩ := hcs
    exact ⟨[], rfl, fun j hj => by simp at hj, by omega⟩
  · simp at hcs
    obtain ⟨rfl, rfl, rfl⟩ := hcs
    have hlm : len ≤ m := by rw [hmm]; split <;> omega
    have num : ∀ i, i < len → ∃ x y : Int, W.cell? (a.add (i * 2)) = some (.int .i64 x) ∧ W.cell? (a.add (i * 2 + 1)) = some (.int .i64 y) := by
      intro i hi
      obtain ⟨h0, h1, t0, t1⟩ := hx i (by omega)
      obtain ⟨x, e0, _, _⟩ := DataW.trod_int (k := .i64) (by kernel_rfl) t0
      obtain ⟨y, e1, _, _⟩ := DataW.trod_int (k := .i64) (by kernel_rfl) t1
      simp at e0 e1
      exact ⟨x, y, by rw [h0, e0], by rw [h1, e1]⟩
    obtain ⟨F, hF⟩ := choose_lt (α := Int × Int) (n := len) (p := fun i q => W.cell? (a.add (i * 2)) = some (.int .i64 q.1) ∧ W.cell? (a.add (i * 2 + 1)) = some (.int .i64 q.2)) (fun i hi => by
      obtain ⟨x, y, h0, h1⟩ := num i hi
      exact ⟨(x, y), h0, h1⟩)
    refine ⟨(List.range len).map F, by simp, fun j hj => ?_, by unfold maxLen at *; omega⟩
    have hj' : j < len := by simpa using hj
    have hg : ((List.range len).map F).getD j (0, 0) = F j := by simp [hj']
    rw [hg]
    obtain ⟨h0, h1⟩ := hF j hj'
    have hs : a.spot = none := by
      obtain ⟨q0, _⟩ := hF 0 (by omega)
      rw [Nat.zero_mul, show a.add 0 = a from rfl] at q0
      unfold World.cell? at q0
      cases hsp : a.spot with
      | none => rfl
      | some s =>
        rw [hsp] at q0
        split at q0 <;> simp at q0
    obtain ⟨b, o, sp⟩ := a
    simp only at hs
    subst hs
    have hadd : ∀ i, (⟨b, o, none⟩ : Addr).add i = ⟨b, o + i, none⟩ := by
      intro i
      unfold Addr.add
      split <;> simp_all
    rw [hadd] at h0 h1
    exact ⟨b, o, rfl, h0, by rw [Nat.add_assoc]; exact h1⟩

set_option maxRecDepth 100000 in
theorem lifted (os : Os) (started : os.Started) (H : Type) (enc : TypeId × Value → H) :
    ReturnsInHanded {} Try.checked os 4 .any (Rows.fnStackSpec.pre6 enc Try.prog Try.f4 Rows.fnStackRow.domain false) (Rows.fnStackSpec.post enc Try.prog Try.f4 false true false false) := by
  refine returnsInHanded_of_change (C := Try.checked) own started (by kernel_rfl) Try.func4
    (ChangeSpec.witness6 (enc := enc) (C := Try.checked) false ⟨#[], #[.slice none 0 0], []⟩ 8 (by kernel_rfl) (by kernel_rfl) (by kernel_rfl) (by kernel_rfl)) ?_
  intro W base args ds gs before hval0 hW hcnd _
  have hval : ∀ (j : Nat) t v, Try.f4.params[j]? = some t → args[j]? = some v → Value.okWide Try.prog W .any base t v := hval0
  have hW' := hW
  obtain ⟨p, q, hA0, hV, rfl, hfz, hnd⟩ := hW
  have hA : DataW.TrodAll enc Try.prog W 0 (fun _ => true) true Try.f4.params.toList args.toList ds p := hA0
  rw [Try.params4] at hA hval
  obtain ⟨v0, vs0, d0, ds0, p0, q0, hargs, rfl, rfl, h0, r0⟩ := trodAll_cons hA
  obtain ⟨rfl, rfl, rfl⟩ := trodAll_nil r0
  obtain rfl : args = #[v0] := by cases args; simp_all
  obtain ⟨rfl, rfl⟩ := trodVars_none hV
  obtain ⟨a0, len0, cap0, rfl⟩ := okWide_slice Try.underlying24 (hval 0 24 v0 rfl rfl)
  have k0 := h0
  have lt0 : ∀ x ∈ p0, x.block < W.heap.size := by obtain ⟨m, hm⟩ := k0; exact DataW.trod_lt m _ _ _ hm
  obtain ⟨ops, hlen, hr, hm⟩ : ∃ ops : List (Int × Int), ops.length = len0 ∧ Calls_ W a0 ops ∧ len0 ≤ 9223372036854775807 := by
    obtain ⟨fuel, hf⟩ := h0
    exact opened (v := .slice a0 len0 cap0) (by simpa [Value.cells] using hf)
  subst hlen
  clear hA0 hval0
  refine (walk W a0 cap0 ops hr hm).mono fun e W' ⟨he, bel⟩ => ?_
  subst he
  exact ⟨_, rfl, _, _, _, [], _, [], hW', trodAll_mk1 (shut_bool Try.underlying4 _), (trodAll_cons_mk (Below.trod laidOut (by kernel_rfl) (of_decide_eq_true (by kernel_rfl)) k0 bel lt0) trodAll_mk0), rfl, bel.frame _, fun h => by cases h⟩

theorem over : Rows.fnStackRow.holds Try.pinned (OpenSpec.ofChange Rows.fnStackSpec) :=
  OpenClaim.holds_of_wide 4 Try.f4 rfl rfl rfl rfl rfl rfl rfl ⟨rfl, rfl, rfl, rfl, rfl⟩ rfl rfl rfl rfl rfl (by kernel_rfl) Try.func4 (by kernel_rfl)
    (of_decide_eq_true (by kernel_rfl)) (by unfold Func.isWrapper; first | (rw [if_pos (by decide +kernel)]; kernel_rfl) | (rw [if_neg (by decide +kernel)]; exact ⟨rfl, rfl⟩))
    (fun os started H enc _ => lifted os started H enc)

/-- ████ THE STATEMENT ████ -/
theorem proved : Rows.FnStackSaid := over
#print axioms proved
end Go.Proofs.Ytaehbephmjolcaa.fnStack
namespace Go.Proofs.Ytaehbephmjolcaa
/-- The row, under a short name, for the claim. -/
theorem fnStack_holds : Rows.FnStackSaid := fnStack.proved
end Go.Proofs.Ytaehbephmjolcaa
