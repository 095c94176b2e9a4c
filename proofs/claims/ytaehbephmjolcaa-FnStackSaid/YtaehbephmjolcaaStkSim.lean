/-
  A stack that can be saved and restored says what a list says of which the last element is taken first.
  Conditions: none.
-/
import Derived.Test.YtaehbephmjolcaaStkPlain
namespace Go.Proofs.Ytaehbephmjolcaa

/-- The list behind a place: the values from the bottom up. -/
inductive Chain (ds : List (Int × Int)) : Int → List Int → Prop
  | none (i : Int) : i < 0 → Chain ds i []
  | some (i x nx : Int) (t : List Int) : 0 ≤ i → i < ds.length → ds.getD i.toNat (0, 0) = (x, nx) → nx < i → Chain ds nx t → Chain ds i (t ++ [x])

theorem Chain.same {ds ds' : List (Int × Int)} {i : Int} {t : List Int} (h : Chain ds i t) : ds.length ≤ ds'.length → (∀ j : Nat, (j : Int) ≤ i → ds'.getD j (0, 0) = ds.getD j (0, 0)) → Chain ds' i t := by
  induction h with
  | none i hi => exact fun _ _ => .none i hi
  | some i x nx t h0 h1 hd hlt _ ih =>
    intro hl hs
    exact .some i x nx t h0 (by omega) (by rw [hs _ (by omega)]; exact hd) hlt (ih hl fun j hj => hs j (by omega))

theorem Chain.empty {ds : List (Int × Int)} {i : Int} {t : List Int} (h : Chain ds i t) : i < 0 ↔ t = [] := by
  cases h with
  | none i hi => simp [hi]
  | some i x nx t h0 _ _ _ _ => constructor <;> intro h <;> simp_all; omega

theorem Chain.top {ds : List (Int × Int)} {i : Int} {t : List Int} (h : Chain ds i t) (h0 : ¬ i < 0) : t.length ≠ 0 ∧ (topOf ds i).1 = t.getD (t.length - 1) 0 ∧ Chain ds (topOf ds i).2 (t.take (t.length - 1)) := by
  cases h with
  | none i hi => exact absurd hi h0
  | some i x nx t _ _ hd _ hc =>
    unfold topOf
    rw [hd]
    refine ⟨by simp, by simp, by simpa using hc⟩

/-- What the reference keeps: the list now, and those that were saved. -/
structure Ref where
  now : List Int
  kept : List (List Int)
def ref0 : Ref := ⟨[], []⟩
def refStep (r : Ref) (d x : Int) : Ref × (Bool × Int) :=
  if d = 1 then (⟨r.now ++ [x], r.kept⟩, (false, 0))
  else if d = 2 then (if r.now.length = 0 then (r, (false, 0)) else (⟨r.now.take (r.now.length - 1), r.kept⟩, (true, r.now.getD (r.now.length - 1) 0)))
  else if d = 3 then (if r.now.length = 0 then (r, (false, 0)) else (r, (true, r.now.getD (r.now.length - 1) 0)))
  else if d = 4 then (r, (true, if r.now.length = 0 then 1 else 0))
  else if d = 5 then (⟨r.now, r.kept ++ [r.now]⟩, (false, 0))
  else if d = 6 then (if r.kept.length = 0 then (r, (false, 0)) else (⟨r.kept.getD (r.kept.length - 1) [], r.kept.take (r.kept.length - 1)⟩, (false, 0)))
  else (r, (false, 0))

structure Rel (m : Mac) (r : Ref) : Prop where
  now : Chain m.ds m.i r.now
  len : m.sv.length = r.kept.length
  kept : ∀ j, j < m.sv.length → Chain m.ds (m.sv.getD j (0, 0)).1 (r.kept.getD j [])
  low : ∀ j, j < m.sv.length → (m.sv.getD j (0, 0)).1 ≤ m.l
  rise : ∀ j k, j < k → k < m.sv.length → (m.sv.getD j (0, 0)).1 ≤ (m.sv.getD k (0, 0)).2

theorem rel0 : Rel mac0 ref0 := ⟨.none _ (by decide), rfl, (fun j h => by simp [mac0] at h), (fun j h => by simp [mac0] at h), (fun j k _ h => by simp [mac0] at h)⟩

theorem pushD_get (ds : List (Int × Int)) (i l x : Int) (h0 : -1 ≤ i) (h2 : -1 ≤ l) (h1 : i < ds.length) (h3 : l < ds.length) :
    (pushD ds i l x).getD (max i l + 1).toNat (0, 0) = (x, i) ∧ (∀ j : Nat, (j : Int) ≤ max i l → (pushD ds i l x).getD j (0, 0) = ds.getD j (0, 0)) := by
  unfold pushD
  split
  · constructor
    · simp only [List.getD_eq_getElem?_getD]
      rw [List.getElem?_set_self (by omega)]
      rfl
    · intro j hj
      simp only [List.getD_eq_getElem?_getD]
      rw [List.getElem?_set_ne (by omega)]
  · have e : (max i l + 1).toNat = ds.length := by omega
    constructor
    · rw [e]; simp
    · intro j hj
      simp only [List.getD_eq_getElem?_getD]
      rw [List.getElem?_append_left (by omega)]

theorem sim_step {m : Mac} {r : Ref} {k : Nat} (ok : m.Ok k) (h : Rel m r) (d x : Int) : Rel (step m d x).1 (refStep r d x).1 ∧ (step m d x).2 = (refStep r d x).2 := by
  have hn := h.now
  have hemp := hn.empty
  unfold step refStep
  split
  · refine ⟨?_, rfl⟩
    have hg := pushD_get m.ds m.i m.l x ok.i0 ok.l0 ok.i1 ok.l1
    have hl := pushD_length m.ds m.i m.l x ok.i1 ok.l1
    have hlow := h.low
    have i0 := ok.i0
    have i1 := ok.i1
    have l0 := ok.l0
    have l1 := ok.l1
    refine ⟨?_, h.len, ?_, h.low, h.rise⟩
    · show Chain (pushD m.ds m.i m.l x) (max m.i m.l + 1) (r.now ++ [x])
      exact .some _ x m.i _ (by omega) (by omega) hg.1 (by omega) (hn.same (by omega) fun j hj => hg.2 j (by omega))
    · intro j hj
      exact (h.kept j hj).same (by simp only; omega) fun j' hj' => hg.2 j' (by have := hlow j hj; omega)
  · split
    · by_cases hi : m.i < 0
      · have hz : r.now.length = 0 := by rw [hemp.1 hi]; rfl
        rw [if_pos hi, if_pos hz]
        exact ⟨h, rfl⟩
      · obtain ⟨hz, ht, hc⟩ := hn.top hi
        rw [if_neg hi, if_neg hz]
        exact ⟨⟨hc, h.len, h.kept, h.low, h.rise⟩, by simp only [ht]⟩
    · split
      · by_cases hi : m.i < 0
        · have hz : r.now.length = 0 := by rw [hemp.1 hi]; rfl
          rw [if_pos hi, if_pos hz]
          exact ⟨h, rfl⟩
        · obtain ⟨hz, ht, hc⟩ := hn.top hi
          rw [if_neg hi, if_neg hz]
          exact ⟨h, by simp only [ht]⟩
      · split
        · refine ⟨h, ?_⟩
          by_cases hi : m.i < 0
          · have hz : r.now.length = 0 := by rw [hemp.1 hi]; rfl
            rw [if_pos hi, if_pos hz]
          · obtain ⟨hz, _, _⟩ := hn.top hi
            rw [if_neg hi, if_neg hz]
        · split
          · refine ⟨⟨hn, by simp [h.len], ?_, ?_, ?_⟩, rfl⟩
            · intro j hj
              simp only [List.length_append, List.length_cons, List.length_nil] at hj
              by_cases hlt : j < m.sv.length
              · simp only [List.getD_eq_getElem?_getD, List.getElem?_append_left hlt, List.getElem?_append_left (show j < r.kept.length by rw [← h.len]; exact hlt)]
                simpa [List.getD_eq_getElem?_getD] using h.kept j hlt
              · have e : j = m.sv.length := by omega
                subst e
                have e2 : (r.kept ++ [r.now]).getD m.sv.length [] = r.now := by rw [h.len]; simp
                rw [e2]
                simpa using hn
            · intro j hj
              simp only [List.length_append, List.length_cons, List.length_nil] at hj
              by_cases hlt : j < m.sv.length
              · have := h.low j hlt
                simp only [List.getD_eq_getElem?_getD, List.getElem?_append_left hlt] at this ⊢
                omega
              · have e : j = m.sv.length := by omega
                subst e
                simp; omega
            · intro j k hjk hk
              simp only [List.length_append, List.length_cons, List.length_nil] at hk
              have hlt : j < m.sv.length := by omega
              by_cases hk2 : k < m.sv.length
              · have := h.rise j k hjk hk2
                simp only [List.getD_eq_getElem?_getD, List.getElem?_append_left hlt, List.getElem?_append_left hk2] at this ⊢
                exact this
              · have e : k = m.sv.length := by omega
                subst e
                have := h.low j hlt
                simp only [List.getD_eq_getElem?_getD, List.getElem?_append_left hlt] at this ⊢
                simpa using this
          · split
            · by_cases hs : m.sv = []
              · have hz : r.kept.length = 0 := by rw [← h.len, hs]; rfl
                rw [if_pos hs, if_pos hz]
                exact ⟨h, rfl⟩
              · have hp : 0 < m.sv.length := List.length_pos_iff.2 hs
                have hl := h.len
                rw [if_neg hs, if_neg (by omega)]
                have ht : ∀ j, j < m.sv.length - 1 → (m.sv.take (m.sv.length - 1)).getD j (0, 0) = m.sv.getD j (0, 0) := fun j hj => by
                  simp only [List.getD_eq_getElem?_getD, List.getElem?_take_of_lt hj]
                have ht2 : ∀ j, j < m.sv.length - 1 → (r.kept.take (r.kept.length - 1)).getD j [] = r.kept.getD j [] := fun j hj => by
                  simp only [List.getD_eq_getElem?_getD]
                  rw [List.getElem?_take_of_lt (by omega)]
                refine ⟨⟨?_, by simp; omega, ?_, ?_, ?_⟩, rfl⟩
                · have := h.kept (m.sv.length - 1) (by omega)
                  rw [hl] at this ⊢
                  exact this
                · intro j hj
                  simp only [List.length_take] at hj
                  rw [ht j (by omega), ht2 j (by omega)]
                  exact h.kept j (by omega)
                · intro j hj
                  simp only [List.length_take] at hj
                  rw [ht j (by omega)]
                  exact h.rise j (m.sv.length - 1) (by omega) (by omega)
                · intro j k hjk hk
                  simp only [List.length_take] at hk
                  rw [ht j (by omega), ht k (by omega)]
                  exact h.rise j k hjk (by omega)
            · exact ⟨h, rfl⟩

def refTo (ops : List (Int × Int)) : Nat → Ref
  | 0 => ref0
  | k + 1 => (refStep (refTo ops k) (ops.getD k (0, 0)).1 (ops.getD k (0, 0)).2).1
def refSaid (ops : List (Int × Int)) (k : Nat) : Bool × Int := (refStep (refTo ops k) (ops.getD k (0, 0)).1 (ops.getD k (0, 0)).2).2
theorem sim (ops : List (Int × Int)) : ∀ k, Rel (macTo ops k) (refTo ops k)
  | 0 => rel0
  | k + 1 => (sim_step (macTo_ok ops k) (sim ops k) _ _).1
theorem said_same (ops : List (Int × Int)) (k : Nat) : saidAt ops k = refSaid ops k := (sim_step (macTo_ok ops k) (sim ops k) _ _).2

end Go.Proofs.Ytaehbephmjolcaa
