/-
  A region that draws its order, with a condition on the world that may hang on what has come up so far.
  Conditions: none.
-/
import Derived.Test.YthggnkmlnjlggaaGreatDoorRows
import Derived.Deep.RegionHeld3
namespace Go.Proofs.YthggnkmlnjlggaaGreatDoor
open Go

section
variable {P : Program} {ops : Array Oper} {Q : Exit → Act → World → Prop} {md : Region.Mode} {S : Array Bool → World → Prop}

/-- Whatever order is picked from here on, S of what has come up and of the world holds behind each operation. -/
def AnyL (P : Program) (md : Region.Mode) (ops : Array Oper) (Q : Exit → Act → World → Prop) (S : Array Bool → World → Prop) : Nat → Array Bool → Act → World → Prop
  | 0, l, a, w => Region.ready md ops l = [] ∧ Q .normal a w
  | fuel + 1, l, a, w => (Region.ready md ops l = [] → Q .normal a w) ∧
    ∀ i ∈ Region.ready md ops l, wpOp P ops Q i (fun a' w' => S (l.setIfInBounds i true) w' ∧ AnyL P md ops Q S fuel (l.setIfInBounds i true) a' w') a w

theorem AnyL.any : ∀ (fuel : Nat) (l : Array Bool) (a : Act) (w : World), AnyL P md ops Q S fuel l a w → wpAny P md ops Q fuel l a w
  | 0, _, _, _, h => h
  | fuel + 1, _, _, _, h => ⟨h.1, fun i hi => wpOp_mono (fun a' w' h' => AnyL.any fuel _ a' w' h'.2) (h.2 i hi)⟩

/-- What has come up came up behind what it waits for. -/
def Closed (md : Region.Mode) (ops : Array Oper) (l : Array Bool) : Prop :=
  ∀ j o, ops[j]? = some o → l.getD j true = true → ∀ e ∈ o.after, Region.binds md e = true → l.getD e.on false = true

theorem un_listed {l : Array Bool} {i : Nat} (h : l.getD i true = false) : l.getD i false = false := by
  rcases Nat.lt_or_ge i l.size with h' | h'
  · simp [h'] at h ⊢
    exact h
  · simp [Array.getElem?_eq_none h'] at h

theorem Closed.set {l : Array Bool} {j : Nat} (hC : Closed md ops l) (hj : j ∈ Region.ready md ops l) : Closed md ops (l.setIfInBounds j true) := by
  intro k o ho hk e he hb
  obtain ⟨_, oj, hoj, hall⟩ := mem_ready.1 hj
  by_cases hjk : j = k
  · subst hjk
    rw [hoj] at ho
    cases ho
    exact getD_set_true (hall e he hb)
  · rw [getD_set_ne true hjk] at hk
    exact getD_set_true (hC k o ho hk e he hb)
theorem Closed.start : Closed md ops (Array.replicate ops.size false) := by
  intro j o ho hj
  have hlt := (Array.getElem?_eq_some_iff.1 ho).1
  simp [hlt] at hj
/-- What waits for one that has not come up has not come up. -/
theorem Closed.un {l : Array Bool} {i j : Nat} (hC : Closed md ops l) (hw : ((ops[j]?).map fun o => o.after.any fun e => Region.binds md e && e.on == i) = some true) (h : l.getD i true = false) : l.getD j true = false := by
  rcases hx : l.getD j true with _ | _
  · rfl
  · obtain ⟨o, ho, hany⟩ := Option.map_eq_some_iff.1 hw
    obtain ⟨e, he, hb⟩ := Array.any_eq_true'.1 hany
    simp only [Bool.and_eq_true, beq_iff_eq] at hb
    have := hC j o ho hx e he hb.1
    rw [hb.2, un_listed h] at this
    cases this

theorem AnyL.first {i : Nat} {oi : Oper} {v : Value} {T : World → Prop} (hi : ops[i]? = some oi) (hsel : ∀ (j : Nat) (o : Oper) cs b, ops[j]? = some o → o.op ≠ .select cs b)
    (hQ : ∀ c a w, Q (.panic c) (a.put oi.dst v) w → Q (.panic c) a w)
    (hT : ∀ l w, Closed md ops l → l.getD i true = false → S l w → T w) (hS : ∀ l w, S (l.setIfInBounds i true) w ↔ S l w) :
    ∀ (fuel : Nat) (l : Array Bool) (a : Act) (w : World),
      (∀ j oj, ops[j]? = some oj → j ≠ i → l.getD j true = false → (∀ e ∈ oj.after, Region.binds md e = true → e.on ≠ i) → oi.apart ops oj = true) →
      i ∈ Region.ready md ops l → YieldsIf P ops T oi v a → Closed md ops l → S l w →
      AnyL P md ops Q S fuel (l.setIfInBounds i true) (a.put oi.dst v) w → AnyL P md ops Q S (fuel + 1) l a w := by
  intro fuel
  induction fuel with
  | zero =>
    intro l a w _ hr hy hC hSw H
    refine ⟨fun h => (by rw [h] at hr; cases hr), fun j hj => ?_⟩
    by_cases hji : j = i
    · subst hji
      exact hy.wpOp hi (hT l w hC (mem_ready.1 hr).1 hSw) ⟨(hS l w).2 hSw, H⟩
    · have := ready_mono hj hji
      rw [H.1] at this
      cases this
  | succ fuel ih =>
    intro l a w hfree hr hy hC hSw H
    refine ⟨fun h => (by rw [h] at hr; cases hr), fun j hj => ?_⟩
    by_cases hji : j = i
    · subst hji
      exact hy.wpOp hi (hT l w hC (mem_ready.1 hr).1 hSw) ⟨(hS l w).2 hSw, H⟩
    · have h1 := H.2 j (ready_mono hj hji)
      obtain ⟨hjun, oj, hoj, hall⟩ := mem_ready.1 hj
      have hnot : ∀ e ∈ oj.after, Region.binds md e = true → e.on ≠ i := fun e he hb heq => by
        have h1 := hall e he hb
        rw [heq, un_listed (mem_ready.1 hr).1] at h1
        cases h1
      have h2 := wpOp_putIf hoj (hfree j oj hoj hji hjun hnot) (fun cs b => hsel i oi cs b hi) (fun cs b => hsel j oj cs b hoj) hQ hy h1
      have hfree' : ∀ k ok, ops[k]? = some ok → k ≠ i → (l.setIfInBounds j true).getD k true = false →
          (∀ e ∈ ok.after, Region.binds md e = true → e.on ≠ i) → oi.apart ops ok = true := fun k ok hk hki hun hno => by
        refine hfree k ok hk hki ?_ hno
        by_cases hjk : j = k
        · subst hjk; exact hjun
        · rw [getD_set_ne true hjk] at hun; exact hun
      refine wpOp_mono (fun a' w' h3 => ?_) h2
      obtain ⟨h4, h5, h6⟩ := h3
      rw [Array.setIfInBounds_comm _ _ (Ne.symm hji)] at h5 h6
      have h7 := (hS _ w').1 h5
      exact ⟨h7, ih (l.setIfInBounds j true) a' w' hfree' (ready_mono hr (Ne.symm hji)) h4 (hC.set hj) h7 h6⟩

theorem AnyL.take {i : Nat} {v : Value} {fuel : Nat} {l : Array Bool} {a : Act} {w : World} (dst : Option Tmp) (T : World → Prop) (hd : (ops[i]?).map (·.dst) = some dst)
    (hs : Region.noSelect ops = true) (hf : Region.free md ops l i = true) (hr : (Region.ready md ops l).contains i = true)
    (hQ : ∀ c a w, Q (.panic c) (a.put dst v) w → Q (.panic c) a w) (hT : ∀ l w, Closed md ops l → l.getD i true = false → S l w → T w) (hS : ∀ l w, S (l.setIfInBounds i true) w ↔ S l w)
    (hy : ∀ oi, ops[i]? = some oi → YieldsIf P ops T oi v a) (hC : Closed md ops l) (hSw : S l w)
    (h : Closed md ops (l.setIfInBounds i true) → S (l.setIfInBounds i true) w → AnyL P md ops Q S fuel (l.setIfInBounds i true) (a.put dst v) w) : AnyL P md ops Q S (fuel + 1) l a w := by
  obtain ⟨oi, hi, rfl⟩ := Option.map_eq_some_iff.1 hd
  exact AnyL.first hi (Region.noSelect_spec hs) hQ hT hS fuel l a w (Region.free_spec hi hf) (by simpa using hr) (hy oi hi) hC hSw (h (hC.set (by simpa using hr)) ((hS _ _).2 hSw))

/-- One alone may come up. -/
theorem AnyL.one {i : Nat} {fuel : Nat} {l : Array Bool} {a : Act} {w : World} (o : Oper) (hr : Region.ready md ops l = [i]) (ho : ops[i]? = some o) (hC : Closed md ops l)
    (h : ∀ K' : Act → World → Prop, Shut (∀ a w, S (l.setIfInBounds i true) w → (Closed md ops (l.setIfInBounds i true) → S (l.setIfInBounds i true) w → AnyL P md ops Q S fuel (l.setIfInBounds i true) a w) → K' a w) → if Region.wanted o (yielded ops a.tmps) = true then Oper.wp P o a w K' Q else K' (a.put o.dst undef) w) :
    AnyL P md ops Q S (fuel + 1) l a w := by
  refine ⟨fun h0 => (by rw [hr] at h0; cases h0), fun j hj => ?_⟩
  have hj' := hj
  rw [hr, List.mem_singleton] at hj'
  subst hj'
  exact wpOp_step ho fun K' hK => h K' fun a w hSw hA => hK a w ⟨hSw, hA (hC.set hj) hSw⟩
/-- Two may come up. -/
theorem AnyL.two {i j : Nat} {fuel : Nat} {l : Array Bool} {a : Act} {w : World} (o o' : Oper) (hr : Region.ready md ops l = [i, j]) (ho : ops[i]? = some o) (ho' : ops[j]? = some o') (hC : Closed md ops l)
    (h : ∀ K' : Act → World → Prop, Shut (∀ a w, S (l.setIfInBounds i true) w → (Closed md ops (l.setIfInBounds i true) → S (l.setIfInBounds i true) w → AnyL P md ops Q S fuel (l.setIfInBounds i true) a w) → K' a w) → if Region.wanted o (yielded ops a.tmps) = true then Oper.wp P o a w K' Q else K' (a.put o.dst undef) w)
    (h' : ∀ K' : Act → World → Prop, Shut (∀ a w, S (l.setIfInBounds j true) w → (Closed md ops (l.setIfInBounds j true) → S (l.setIfInBounds j true) w → AnyL P md ops Q S fuel (l.setIfInBounds j true) a w) → K' a w) → if Region.wanted o' (yielded ops a.tmps) = true then Oper.wp P o' a w K' Q else K' (a.put o'.dst undef) w) :
    AnyL P md ops Q S (fuel + 1) l a w := by
  refine ⟨fun h0 => (by rw [hr] at h0; cases h0), fun k hk => ?_⟩
  have hk' := hk
  rw [hr] at hk'
  rcases List.mem_cons.1 hk' with rfl | hk'
  · exact wpOp_step ho fun K' hK => h K' fun a w hSw hA => hK a w ⟨hSw, hA (hC.set hk) hSw⟩
  · obtain rfl := List.mem_singleton.1 hk'
    exact wpOp_step ho' fun K' hK => h' K' fun a w hSw hA => hK a w ⟨hSw, hA (hC.set hk) hSw⟩
theorem AnyL.done {l : Array Bool} {a : Act} {w : World} (hr : Region.ready md ops l = []) (h : Q .normal a w) : ∀ fuel, AnyL P md ops Q S fuel l a w
  | 0 => ⟨hr, h⟩
  | _ + 1 => ⟨fun _ => h, by rw [hr]; simp⟩
theorem AnyL.region {id : Nat} {a : Act} {w : World} (n : Nat) (hn : ops.size = n) (hm : P.follows .mixedOrders = true) (h : Closed .any ops (Array.replicate n false) → AnyL P .any ops Q S n (Array.replicate n false) a w.drew) : (Code.region id ops true).wp P Q a w := by
  subst hn
  exact wp_region_any hm (AnyL.any _ _ _ _ (h Closed.start))

/-- A fact that is leant on till an operation has come up. -/
def Til (s : Nat) (B : World → Prop) (l : Array Bool) (w : World) : Prop := l.getD s true = false → B w
theorem Til.set {s i : Nat} {B : World → Prop} (h : s ≠ i) (l : Array Bool) (w : World) : Til s B (l.setIfInBounds i true) w ↔ Til s B l w := by
  unfold Til
  rw [getD_set_ne true (Ne.symm h)]
theorem Til.mk {s : Nat} {B : World → Prop} {l : Array Bool} {w : World} (h : B w) : Til s B l w := fun _ => h
theorem Til.late {s : Nat} {B : World → Prop} {l : Array Bool} {w : World} (h : l.getD s true = true) : Til s B l w := fun k => (by rw [h] at k; cases k)
end
end Go.Proofs.YthggnkmlnjlggaaGreatDoor
