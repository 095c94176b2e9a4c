/-
  The escaper and the join, as plain words.
  Conditions: none.
-/
import Derived.Test.YthggnkmlnjlggaaGreatDoorVal
import Derived.Lib.Strings
import Derived.Laws.Concat
namespace Go.Proofs.YthggnkmlnjlggaaGreatDoor

def esc (b : UInt8) : List UInt8 := if b = 9 then [92, 116] else if b = 13 then [92, 114] else if b = 10 then [92, 110] else if b = 92 then [92, 92] else if b = 0 then [92, 48] else [b]
def escL (l : List UInt8) : List UInt8 := l.flatMap esc
def escS (s : ByteArray) : ByteArray := ⟨(escL s.data.toList).toArray⟩
theorem esc_len (b : UInt8) : (esc b).length ≤ 2 := by
  unfold esc
  repeat' split
  all_goals simp
theorem escL_len (l : List UInt8) : (escL l).length ≤ 2 * l.length := by
  induction l with
  | nil => simp [escL]
  | cons a r ih =>
    have := esc_len a
    simp only [escL, List.flatMap_cons, List.length_append, List.length_cons] at *
    omega
theorem escL_snoc (l : List UInt8) (k : Nat) (hk : k < l.length) : escL (l.take (k + 1)) = escL (l.take k) ++ esc (l.getD k 0) := by
  rw [List.take_succ_eq_append_getElem hk]
  simp only [escL, List.flatMap_append, List.flatMap_cons, List.flatMap_nil, List.append_nil, List.getD_eq_getElem?_getD, List.getElem?_eq_getElem hk, Option.getD_some]
/-- Texts joined by tabs. -/
def tailL (l : List ByteArray) : List UInt8 := l.flatMap fun y => 9 :: y.data.toList
def joinT : List ByteArray → ByteArray
  | [] => ⟨#[]⟩
  | x :: r => ⟨(x.data.toList ++ tailL r).toArray⟩
theorem tailL_snoc (l : List ByteArray) (k : Nat) (hk : k < l.length) : tailL (l.take (k + 1)) = tailL (l.take k) ++ (9 :: (l.getD k ⟨#[]⟩).data.toList) := by
  rw [List.take_succ_eq_append_getElem hk]
  simp only [tailL, List.flatMap_append, List.flatMap_cons, List.flatMap_nil, List.append_nil, List.getD_eq_getElem?_getD, List.getElem?_eq_getElem hk, Option.getD_some]
/-- The sizes of the first texts together. -/
def sizesT (l : List ByteArray) (k : Nat) : Nat := ((l.take k).map ByteArray.size).sum
theorem sizesT_snoc (l : List ByteArray) (k : Nat) (hk : k < l.length) : sizesT l (k + 1) = sizesT l k + (l.getD k ⟨#[]⟩).size := by
  unfold sizesT
  rw [List.take_succ_eq_append_getElem hk]
  simp only [List.map_append, List.map_cons, List.map_nil, List.sum_append, List.sum_cons, List.sum_nil, Nat.add_zero, List.getD_eq_getElem?_getD, List.getElem?_eq_getElem hk, Option.getD_some]
theorem sizesT_mono (l : List ByteArray) {j k : Nat} (h : j ≤ k) : sizesT l j ≤ sizesT l k := by
  by_cases hk : k ≤ l.length
  · obtain ⟨d, rfl⟩ := Nat.exists_eq_add_of_le h
    clear h
    induction d with
    | zero => exact Nat.le_refl _
    | succ d ih =>
      have := ih (by omega)
      rw [← Nat.add_assoc, sizesT_snoc l (j + d) (by omega)]
      omega
  · unfold sizesT
    rw [List.take_of_length_le (show l.length ≤ k by omega)]
    have e : l = l.take j ++ l.drop j := (List.take_append_drop j l).symm
    conv => rhs; rw [e]
    rw [List.map_append, List.sum_append]
    omega
theorem tail_len (xs : List ByteArray) : ∀ j, j + 1 ≤ xs.length → ((xs.getD 0 ⟨#[]⟩).data.toList ++ tailL ((xs.drop 1).take j)).length = sizesT xs (j + 1) + j
  | 0, h => by
    rw [sizesT_snoc xs 0 (by omega)]
    simp [tailL, sizesT]
  | j + 1, h => by
    have ih := tail_len xs j (by omega)
    rw [tailL_snoc (xs.drop 1) j (by simp; omega), sizesT_snoc xs (j + 1) (by omega), ← List.append_assoc, List.length_append, ih]
    have e : (xs.drop 1).getD j ⟨#[]⟩ = xs.getD (j + 1) ⟨#[]⟩ := by simp [List.getD_eq_getElem?_getD]
    rw [e]
    simp
    omega
theorem joinT_one (y : ByteArray) : joinT [y] = y := by
  obtain ⟨⟨l⟩⟩ := y
  simp [joinT, tailL]
theorem joinT_snoc (x : ByteArray) (xs : List ByteArray) (y : ByteArray) : joinT (x :: xs ++ [y]) = joinT (x :: xs) ++ ⟨#[9]⟩ ++ y := by
  obtain ⟨⟨l⟩⟩ := y
  simp only [joinT, tailL, List.cons_append, List.flatMap_append, List.flatMap_cons, List.flatMap_nil, List.append_nil, ByteArray.mk_append_mk]
  congr 2
  simp
theorem tailL_size (B : Nat) : ∀ xs : List ByteArray, (∀ x ∈ xs, x.size ≤ B) → (tailL xs).length ≤ xs.length * (B + 1)
  | [], _ => by simp [tailL]
  | x :: r, h => by
    have ih := tailL_size B r fun y hy => h y (List.mem_cons_of_mem _ hy)
    have hx := h x List.mem_cons_self
    have e : (tailL (x :: r)).length = x.size + 1 + (tailL r).length := by simp [tailL]; omega
    rw [e, List.length_cons, Nat.succ_mul]
    omega
theorem joinT_size {B : Nat} {xs : List ByteArray} (h : ∀ x ∈ xs, x.size ≤ B) : (joinT xs).size ≤ xs.length * (B + 1) := by
  cases xs with
  | nil => simp [joinT, ByteArray.size]
  | cons x r =>
    have h1 := tailL_size B r fun y hy => h y (List.mem_cons_of_mem _ hy)
    have hx := h x List.mem_cons_self
    have e : (joinT (x :: r)).size = x.size + (tailL r).length := by
      show (x.data.toList ++ tailL r).toArray.size = _
      rw [List.size_toArray, List.length_append]
      rfl
    rw [e, List.length_cons, Nat.succ_mul]
    omega
theorem escS_size (s : ByteArray) : (escS s).size ≤ 2 * s.size := by
  have := escL_len s.data.toList
  have e : (escS s).size = (escL s.data.toList).length := List.size_toArray
  rw [e]
  exact this
end Go.Proofs.YthggnkmlnjlggaaGreatDoor
