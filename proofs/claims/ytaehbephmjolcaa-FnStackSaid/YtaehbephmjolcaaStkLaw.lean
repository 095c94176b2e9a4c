/-
  What the statement's own loop keeps: the list now and the lists that were saved, as slices.
  Conditions: none.
-/
import Derived.Test.YtaehbephmjolcaaStkRun
namespace Go.Proofs.Ytaehbephmjolcaa
open Go.RowKit

/-- A slice of integers in blocks of the call's own that nobody writes. -/
def RdI (w : World) (base : Nat) (v : Value) (xs : List Int) : Prop :=
  ∃ A c, v = .slice A xs.length c ∧ xs.length ≤ c ∧ (A = none → c = 0) ∧ (xs ≠ [] → ∃ g arr, A = some ⟨g, 0, none⟩ ∧ base ≤ g ∧ Blk w g arr 3 ∧ ∀ j, j < xs.length → arr[j]? = some (.int .i64 (xs.getD j 0)))

theorem RdI.nil (w : World) (base : Nat) : RdI w base (.slice none 0 0) [] := ⟨none, 0, rfl, Nat.le_refl _, fun _ => rfl, fun h => absurd rfl h⟩
theorem RdI.chg {ok : Nat → Prop} {w w' : World} {base : Nat} {v : Value} {xs : List Int} (h : RdI w base v xs) (hc : Chg ok w w') (ho : ∀ g arr, Blk w g arr 3 → ok g) : RdI w' base v xs := by
  obtain ⟨A, c, rfl, hl, hn, h⟩ := h
  refine ⟨A, c, rfl, hl, hn, fun hx => ?_⟩
  obtain ⟨g, arr, rfl, hg, hb, hr⟩ := h hx
  exact ⟨g, arr, rfl, hg, hb.chg hc (ho g arr hb), hr⟩
theorem RdI.of_own {w : World} {base : Nat} {v : Value} {xs : List Int} (h : w.ownsRow base 3 1 v xs.length (xs.map (Value.int .i64))) : RdI w base v xs := by
  rcases h.2 with ⟨rfl, h0⟩ | ⟨g, cap, cur, rfl, hb, hh, hn, _, _, ht⟩
  · obtain rfl : xs = [] := List.eq_nil_of_length_eq_zero h0
    exact RdI.nil w base
  · refine ⟨_, cap, rfl, hn, fun h => by (cases h), fun _ => ⟨g, cur, rfl, hb, hh, fun j hj => ?_⟩⟩
    have e : (cur.toList.take (xs.length * 1))[j]? = (xs.map (Value.int .i64))[j]? := by rw [ht]
    rw [List.getElem?_take_of_lt (by omega)] at e
    rw [← Array.getElem?_toList, e]
    simp [hj]
theorem RdI.take {w : World} {base n c : Nat} {A : Option Addr} {xs : List Int} (h : RdI w base (.slice A n c) xs) (k : Nat) (hk : k ≤ xs.length) : RdI w base (.slice A k c) (xs.take k) := by
  obtain ⟨A', c', he, hl, hn, h⟩ := h
  cases he
  have hlen : (xs.take k).length = k := by rw [List.length_take]; omega
  refine ⟨A, c, by rw [hlen], by omega, hn, fun hx => ?_⟩
  have hx0 : xs ≠ [] := by rintro rfl; simp at hx
  obtain ⟨g, arr, hA, hg, hb, hr⟩ := h hx0
  refine ⟨g, arr, hA, hg, hb, fun j hj => ?_⟩
  rw [hlen] at hj
  rw [hr j (by omega)]
  simp only [List.getD_eq_getElem?_getD, List.getElem?_take_of_lt hj]

structure Law (w wr : World) (O : Nat) (ops : List (Int × Int)) (r : Ref) (v4 v5 : Value) : Prop where
  now : RdI wr w.heap.size v4 r.now
  kept : ∃ vs : List Value, wr.ownsRow w.heap.size 27 1 v5 r.kept.length vs ∧ ∀ j, j < r.kept.length → ∃ v, vs[j]? = some v ∧ RdI wr w.heap.size v (r.kept.getD j [])
  out : Blk wr O (saysOf (outs ops ops.length ops.length)).toArray 30
  old : Chg (fun b => b < w.heap.size) w wr

section
variable {w wr wr' : World} {O k : Nat} {ops : List (Int × Int)} {r : Ref} {v4 v5 v4' v5' : Value}
theorem kept_ne {vs : List Value} {n : Nat} {t : TypeId} (h : wr.ownsRow w.heap.size 27 1 v5 n vs) (ht : t ≠ 27) : ∀ g arr, Blk wr g arr t → some g ≠ v5.ownBlock := fun _ _ hb => own_ne h hb ht
/-- Whatever is done but to what was kept's own row. -/
theorem Law.chg (h : Law w wr O ops r v4 v5) (hc : Chg (fun _ => True) wr wr') : Law w wr' O ops r v4 v5 := by
  obtain ⟨vs, h1, h2⟩ := h.kept
  refine ⟨h.now.chg hc fun _ _ _ => trivial, ⟨vs, own_chg h1 hc fun _ _ => trivial, fun j hj => ?_⟩, h.out.chg hc trivial, h.old.trans (hc.mono fun _ _ _ => trivial)⟩
  obtain ⟨v, hv, hr⟩ := h2 j hj
  exact ⟨v, hv, hr.chg hc fun _ _ _ => trivial⟩
theorem Law.setNow (h : Law w wr O ops r v4 v5) {xs : List Int} (hn : RdI wr w.heap.size v4' xs) : Law w wr O ops ⟨xs, r.kept⟩ v4' v5 := ⟨hn, h.kept, h.out, h.old⟩
theorem Law.keep (h : Law w wr O ops r v4 v5) {vs : List Value} (h1 : wr.ownsRow w.heap.size 27 1 v5 r.kept.length vs) (h2 : ∀ j, j < r.kept.length → ∃ v, vs[j]? = some v ∧ RdI wr w.heap.size v (r.kept.getD j []))
    (hc : wr.grownBy wr' v5.ownBlock) (ho : wr'.ownsRow w.heap.size 27 1 v5' (r.kept.length + 1) (vs ++ [v4])) :
    Law w wr' O ops ⟨r.now, r.kept ++ [r.now]⟩ v4 v5' := by
  have hC : Chg (fun b => some b ≠ v5.ownBlock) wr wr' := (Chg.refl _ _).grown hc fun _ _ hb => hb
  have hi := kept_ne (t := 3) h1 (by decide)
  have hl : vs.length = r.kept.length := by have := h1.1; omega
  refine ⟨h.now.chg hC hi, ⟨vs ++ [v4], by rw [List.length_append]; exact ho, fun j hj => ?_⟩, h.out.chg hC (own_ne h1 h.out (by decide)), h.old.trans (hC.mono fun b _ hb e => by have := (h1.lt b e.symm).1; omega)⟩
  rw [List.length_append, List.length_cons, List.length_nil] at hj
  by_cases hlt : j < r.kept.length
  · obtain ⟨v, hv, hr⟩ := h2 j hlt
    refine ⟨v, by rw [List.getElem?_append_left (by omega)]; exact hv, ?_⟩
    simp only [List.getD_eq_getElem?_getD, List.getElem?_append_left hlt] at hr ⊢
    exact hr.chg hC hi
  · have e : j = r.kept.length := by omega
    subst e
    refine ⟨v4, by rw [← hl]; simp, ?_⟩
    have e2 : (r.kept ++ [r.now]).getD r.kept.length [] = r.now := by simp
    rw [e2]
    exact h.now.chg hC hi
/-- The last one that was kept. -/
theorem Law.last {g c q : Nat} (h : Law w wr O ops r v4 (.slice (some ⟨g, 0, none⟩) (q + 1) c)) (hq : r.kept.length = q + 1) :
    ∃ v, wr.cell? ⟨g, q, none⟩ = some v ∧ Law w wr O ops ⟨r.kept.getD q [], r.kept.take q⟩ v (.slice (some ⟨g, 0, none⟩) q c) := by
  obtain ⟨vs, h1, h2⟩ := h.kept
  obtain ⟨v, hv, hr⟩ := h2 q (by omega)
  rw [hq] at h1
  have hl : vs.length = q + 1 := by have := h1.1; omega
  refine ⟨v, by rw [h1.cellAt _ (by omega)]; exact hv, ⟨hr, ⟨vs.take q, ?_, fun j hj => ?_⟩, h.out, h.old⟩⟩
  · have ht : (r.kept.take q).length = q := by rw [List.length_take]; omega
    rw [ht]
    have e : vs = vs.take q ++ vs.drop q := (List.take_append_drop q vs).symm
    rw [e] at h1
    exact ownsRow_pop (by rw [List.length_take]; omega) h1
  · have hj' : j < q := by simp only [List.length_take] at hj; omega
    obtain ⟨v, hv, hr⟩ := h2 j (by omega)
    refine ⟨v, by rw [List.getElem?_take_of_lt hj']; exact hv, ?_⟩
    simp only [List.getD_eq_getElem?_getD, List.getElem?_take_of_lt hj'] at hr ⊢
    exact hr
/-- What the run said of call k. -/
theorem Law.said (h : Law w wr O ops r v4 v5) (hk : k < ops.length) {b : Bool} {y : Int} (hx : saidAt ops k = (b, y)) : wr.cell? ⟨O, k * 2, none⟩ = some (.bool b) ∧ wr.cell? ⟨O, k * 2 + 1, none⟩ = some (.int .i64 y) := by
  have hl : k < (outs ops ops.length ops.length).length := by rw [outs_length]; exact hk
  have hg : (outs ops ops.length ops.length)[k] = (b, y) := by simp [outs, hk, hx]
  have h0 := flat_get (fun p : Bool × Int => [Value.bool p.1, .int .i64 p.2]) (fun _ => rfl) _ k hl 0 (by omega)
  have h1 := flat_get (fun p : Bool × Int => [Value.bool p.1, .int .i64 p.2]) (fun _ => rfl) _ k hl 1 (by omega)
  rw [hg] at h0 h1
  refine ⟨?_, ?_⟩
  · rw [h.out.cell]; simpa [saysOf] using h0
  · rw [h.out.cell]; simpa [saysOf] using h1
end

theorem refStep_few (r : Ref) (d x : Int) (k : Nat) (h : r.now.length ≤ k ∧ r.kept.length ≤ k ∧ ∀ l ∈ r.kept, l.length ≤ k) : (refStep r d x).1.now.length ≤ k + 1 ∧ (refStep r d x).1.kept.length ≤ k + 1 ∧ ∀ l ∈ (refStep r d x).1.kept, l.length ≤ k + 1 := by
  obtain ⟨h1, h2, h3⟩ := h
  have same : r.now.length ≤ k + 1 ∧ r.kept.length ≤ k + 1 ∧ ∀ l ∈ r.kept, l.length ≤ k + 1 := ⟨by omega, by omega, fun l hl => by have := h3 l hl; omega⟩
  unfold refStep
  split
  · exact ⟨by simp; omega, same.2⟩
  · split
    · split
      · exact same
      · exact ⟨by simp; omega, same.2⟩
    · split
      · split <;> exact same
      · split
        · exact same
        · split
          · refine ⟨same.1, by simp; omega, fun l hl => ?_⟩
            simp only [List.mem_append, List.mem_singleton] at hl
            rcases hl with hl | rfl
            · exact same.2.2 l hl
            · exact same.1
          · split
            · split
              · exact same
              · refine ⟨?_, by simp; omega, fun l hl => same.2.2 l (List.mem_of_mem_take hl)⟩
                have : r.kept.getD (r.kept.length - 1) [] ∈ r.kept := by
                  rw [List.getD_eq_getElem?_getD, List.getElem?_eq_getElem (by omega)]
                  exact List.getElem_mem _
                exact same.2.2 _ this
            · exact same
theorem refTo_few (ops : List (Int × Int)) : ∀ k, (refTo ops k).now.length ≤ k ∧ (refTo ops k).kept.length ≤ k ∧ ∀ l ∈ (refTo ops k).kept, l.length ≤ k
  | 0 => ⟨Nat.le_refl _, Nat.le_refl _, fun l hl => by cases hl⟩
  | k + 1 => refStep_few _ _ _ k (refTo_few ops k)

end Go.Proofs.Ytaehbephmjolcaa
