/-
  The calls on a stack that can be saved and restored, as plain functions, beside a list of lists.
  Conditions: none.
-/
import Derived.Lib.Hide
namespace Go.Proofs.Ytaehbephmjolcaa

/-- The top's value and what it lies on. -/
def topOf (ds : List (Int × Int)) (i : Int) : Int × Int := ds.getD i.toNat (0, 0)
def pushD (ds : List (Int × Int)) (i l x : Int) : List (Int × Int) := if max i l + 1 < ds.length then ds.set (max i l + 1).toNat (x, i) else ds ++ [(x, i)]

/-- The stack's row, its top's place, its limit; what was saved, the newest last. -/
structure Mac where
  ds : List (Int × Int)
  i : Int
  l : Int
  sv : List (Int × Int)

def mac0 : Mac := ⟨[], -1, -1, []⟩
def step (m : Mac) (d x : Int) : Mac × (Bool × Int) :=
  if d = 1 then (⟨pushD m.ds m.i m.l x, max m.i m.l + 1, m.l, m.sv⟩, (false, 0))
  else if d = 2 then (if m.i < 0 then (m, (false, 0)) else (⟨m.ds, (topOf m.ds m.i).2, m.l, m.sv⟩, (true, (topOf m.ds m.i).1)))
  else if d = 3 then (if m.i < 0 then (m, (false, 0)) else (m, (true, (topOf m.ds m.i).1)))
  else if d = 4 then (m, (true, if m.i < 0 then 1 else 0))
  else if d = 5 then (⟨m.ds, m.i, max m.i m.l, m.sv ++ [(m.i, m.l)]⟩, (false, 0))
  else if d = 6 then (if m.sv = [] then (m, (false, 0)) else (⟨m.ds, (m.sv.getD (m.sv.length - 1) (0, 0)).1, (m.sv.getD (m.sv.length - 1) (0, 0)).2, m.sv.take (m.sv.length - 1)⟩, (false, 0)))
  else (m, (false, 0))

/-- All places lie in the row. -/
structure Mac.Ok (m : Mac) (k : Nat) : Prop where
  i0 : -1 ≤ m.i
  i1 : m.i < m.ds.length
  l0 : -1 ≤ m.l
  l1 : m.l < m.ds.length
  few : m.ds.length ≤ k
  nexts : ∀ d ∈ m.ds, -1 ≤ d.2 ∧ d.2 < m.ds.length
  saved : ∀ d ∈ m.sv, -1 ≤ d.1 ∧ d.1 < m.ds.length ∧ -1 ≤ d.2 ∧ d.2 < m.ds.length
  kept : m.sv.length ≤ k

theorem mac0_ok : mac0.Ok 0 := ⟨by decide, by decide, by decide, by decide, by decide, (fun d h => by cases h), (fun d h => by cases h), by decide⟩

theorem topOf_mem {ds : List (Int × Int)} {i : Int} (h0 : 0 ≤ i) (h1 : i < ds.length) : topOf ds i ∈ ds := by
  unfold topOf
  rw [List.getD_eq_getElem?_getD, List.getElem?_eq_getElem (by omega)]
  exact List.getElem_mem _

theorem pushD_length (ds : List (Int × Int)) (i l x : Int) (h1 : i < ds.length) (h3 : l < ds.length) : (pushD ds i l x).length = ds.length ∧ max i l + 1 < ds.length ∨ (pushD ds i l x).length = ds.length + 1 ∧ max i l + 1 = ds.length := by
  unfold pushD
  split
  · left; simp; omega
  · right; simp; omega

theorem pushD_mem {ds : List (Int × Int)} {i l x : Int} {d : Int × Int} (h : d ∈ pushD ds i l x) : d ∈ ds ∨ d = (x, i) := by
  unfold pushD at h
  split at h
  · rcases List.mem_or_eq_of_mem_set h with h | h
    · exact .inl h
    · exact .inr h
  · rcases List.mem_append.1 h with h | h
    · exact .inl h
    · exact .inr (by simpa using h)

theorem step_ok {m : Mac} {k : Nat} (h : m.Ok k) (d x : Int) : (step m d x).1.Ok (k + 1) := by
  obtain ⟨i0, i1, l0, l1, few, nexts, saved, kept⟩ := h
  have same : m.Ok (k + 1) := ⟨i0, i1, l0, l1, by omega, nexts, saved, by omega⟩
  unfold step
  split
  · have hl := pushD_length m.ds m.i m.l x i1 l1
    refine ⟨by simp only; omega, ?_, by simpa using l0, ?_, ?_, ?_, ?_, by simp only; omega⟩
    · simp only; omega
    · simp only; omega
    · simp only; omega
    · intro d hd
      simp only at hd ⊢
      rcases pushD_mem hd with h | h
      · have := nexts d h; omega
      · subst h; simp only; omega
    · intro d hd
      simp only at hd ⊢
      have := saved d hd
      omega
  · split
    · split
      · exact same
      · have := nexts _ (topOf_mem (ds := m.ds) (i := m.i) (by omega) i1)
        exact ⟨by simp only; omega, by simp only; omega, l0, l1, by simp only; omega, nexts, saved, by simp only; omega⟩
    · split
      · split <;> exact same
      · split
        · exact same
        · split
          · refine ⟨i0, i1, by simp only; omega, by simp only; omega, by simp only; omega, nexts, ?_, by simp; omega⟩
            intro d hd
            simp only [List.mem_append, List.mem_singleton] at hd
            rcases hd with h | h
            · exact saved d h
            · subst h; exact ⟨i0, i1, l0, l1⟩
          · split
            · split
              · exact same
              · rename_i hne
                have hm : m.sv.getD (m.sv.length - 1) (0, 0) ∈ m.sv := by
                  have : 0 < m.sv.length := List.length_pos_iff.2 hne
                  rw [List.getD_eq_getElem?_getD, List.getElem?_eq_getElem (by omega)]
                  exact List.getElem_mem _
                have := saved _ hm
                refine ⟨this.1, this.2.1, this.2.2.1, this.2.2.2, by simp only; omega, nexts, ?_, by simp; omega⟩
                intro d hd
                exact saved d (List.mem_of_mem_take hd)
            · exact same

/-- The machine behind k calls, and what they said. -/
def macTo (ops : List (Int × Int)) : Nat → Mac
  | 0 => mac0
  | k + 1 => (step (macTo ops k) (ops.getD k (0, 0)).1 (ops.getD k (0, 0)).2).1
def saidAt (ops : List (Int × Int)) (k : Nat) : Bool × Int := (step (macTo ops k) (ops.getD k (0, 0)).1 (ops.getD k (0, 0)).2).2
theorem macTo_ok (ops : List (Int × Int)) : ∀ k, (macTo ops k).Ok k
  | 0 => mac0_ok
  | k + 1 => step_ok (macTo_ok ops k) _ _

end Go.Proofs.Ytaehbephmjolcaa
