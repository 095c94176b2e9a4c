/-
  The keys of a map, sorted: plain law.
  Conditions: the keys rise.
-/
import Derived.Test.YtehfmaiogbehgaaDoorFrom3
import Derived.Sort.KeysCollected
namespace Go.Proofs.YtehfmaiogbehgaaDoor
open Go.RowKit Go.Maps Go.Sort

theorem keyLt_lt : ∀ a b : List UInt8, keyLt a b = true → a < b
  | [], [] => by simp [keyLt]
  | [], b :: s => fun _ => List.nil_lt_cons b s
  | _ :: _, [] => by simp [keyLt]
  | a :: r, b :: s => by
    simp only [keyLt, Bool.or_eq_true, decide_eq_true_eq, Bool.and_eq_true, beq_iff_eq]
    rintro (h | ⟨rfl, h⟩)
    · exact List.cons_lt_cons_iff.2 (.inl h)
    · exact List.cons_lt_cons_iff.2 (.inr ⟨rfl, keyLt_lt r s h⟩)
theorem keyLt_le {a b : List UInt8} (h : keyLt a b = true) : decide (a ≤ b) = true := decide_eq_true (List.le_of_lt (keyLt_lt a b h))
theorem strKeys_mapD : ∀ (ks : List ByteArray) (xs : List Value), ks.length = xs.length → strKeys (mapD ks xs) = ks.map fun k => k.data.toList
  | [], [], _ => rfl
  | k :: ks, x :: xs, h => by
    have := strKeys_mapD ks xs (by simpa using h)
    simp only [mapD, strKeys] at this ⊢
    simp only [List.zipWith_cons_cons, List.map_cons]
    rw [this]
    rfl
theorem sorted_keys {ks : List ByteArray} {xs : List Value} {ss : List (List UInt8)} (hr : Rising ks) (hl : ks.length = xs.length) (hp : ss.Perm (strKeys (mapD ks xs))) : ss.mergeSort (fun x y => decide (x ≤ y)) = ks.map fun k => k.data.toList := by
  have hs : (ks.map fun k => k.data.toList).Pairwise fun a b => decide (a ≤ b) = true := by
    rw [List.pairwise_map]
    exact hr.imp fun h => keyLt_le h
  rw [strKeys_mapD ks xs hl] at hp
  exact (mergeSort_of_perm hp).trans (List.mergeSort_of_pairwise hs)
end Go.Proofs.YtehfmaiogbehgaaDoor
