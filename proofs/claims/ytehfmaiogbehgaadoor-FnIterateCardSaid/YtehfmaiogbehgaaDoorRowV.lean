/-
  A row of the call's own of values.
  Conditions: none.
-/
import Derived.Test.YtehfmaiogbehgaaDoorZBase
namespace Go.Proofs.YtehfmaiogbehgaaDoor
open Go.RowKit

/-- A row of the call's own of values: its elements' blocks are never its own. -/
structure RowV (wr : World) (N : Nat) (K : Nat → Prop) (l : List V) (k : Nat) (v : Value) (xs : List Value) : Prop where
  row : wr.ownsRow N 27 6 v k xs
  each : ∀ j, j < k → KV wr (fun b => K b ∧ b < wr.heap.size ∧ some b ≠ v.ownBlock) (nth l j) ((xs.drop (j * 6)).take 6)
theorem RowV.nil (wr : World) (N : Nat) (K : Nat → Prop) (l : List V) : RowV wr N K l 0 (.slice none 0 0) [] := ⟨⟨rfl, .inl ⟨rfl, rfl⟩⟩, fun j hj => absurd hj (by omega)⟩
theorem RowV.old {wr w2 : World} {N : Nat} {K : Nat → Prop} {l : List V} {k : Nat} {v : Value} {xs : List Value} (h : RowV wr N K l k v xs) (ho : Old wr w2) : RowV w2 N K l k v xs :=
  ⟨own_old h.row ho, fun j hj => ((h.each j hj).old ho).mono fun b hb _ => ⟨hb.1, by have := ho.size; omega, hb.2.2⟩⟩
theorem RowV.put {w2 w2' w3 : World} {N : Nat} {K : Nat → Prop} {l : List V} {k g cap : Nat} {v : Value} {xs news : List Value} (h : RowV w2 N K l k v xs) (hv : KV w2 (fun b => K b ∧ some b ≠ v.ownBlock) (nth l k) news) (ho : Old w2 w2')
    (hown : w3.ownsRow N 27 6 (.slice (some ⟨g, 0, none⟩) (k + 1) cap) (k + 1) (xs ++ news)) (hgrow : w2'.grownBy w3 v.ownBlock) (hat : v.ownBlock = some g ∨ g = w2'.heap.size) :
    RowV w3 N K l (k + 1) (.slice (some ⟨g, 0, none⟩) (k + 1) cap) (xs ++ news) := by
  have hlen : xs.length = k * 6 := h.row.1
  have hn6 := hv.length
  have h2 := ho.size
  have h3 := hgrow.size
  have hc : Chg (fun b => some b ≠ v.ownBlock) w2 w3 := Chg.grown (ok := fun b => some b ≠ v.ownBlock) ho.chg hgrow fun _ _ ho => ho
  have hne : ∀ b, b < w2.heap.size → some b ≠ v.ownBlock → some b ≠ (Value.slice (some ⟨g, 0, none⟩) (k + 1) cap).ownBlock := fun b hb hn e => by
    have hbg : b = g := by simpa [Value.ownBlock] using e
    rcases hat with hat | hat
    · exact hn (by rw [hat, hbg])
    · omega
  refine ⟨hown, fun j hj => ?_⟩
  by_cases hjk : j = k
  · subst hjk
    have e : ((xs ++ news).drop (j * 6)).take 6 = news := by
      rw [← hlen, List.drop_left]
      exact List.take_of_length_le (by omega)
    rw [e]
    exact (hv.bound.chg (Chg.mono hc fun b hb ho => ho.1.2)).mono fun b hb _ => ⟨hb.1.1, by omega, hne b hb.2 hb.1.2⟩
  · have hjk' : j < k := by omega
    have e : ((xs ++ news).drop (j * 6)).take 6 = (xs.drop (j * 6)).take 6 := by
      rw [List.drop_append_of_le_length (by omega), List.take_append_of_le_length (by rw [List.length_drop]; omega)]
    rw [e]
    exact ((h.each j hjk').chg (Chg.mono hc fun b hb ho => ho.2.2)).mono fun b hb _ => ⟨hb.1, by omega, hne b hb.2.1 hb.2.2⟩
theorem RowV.done {wr : World} {N k : Nat} {K : Nat → Prop} {l : List V} {v : Value} {xs : List Value} (h : RowV wr N K l k v xs) (hk : k = l.length) : KVs wr (fun b => K b ∨ N ≤ b) l v := by
  subst hk
  have hlen : xs.length = l.length * 6 := h.row.1
  refine ⟨fun j => (xs.drop (j * 6)).take 6, ?_, fun i hi => ?_⟩
  · refine SliceV.of_own h.row (fun b hb => .inr (own_lt h.row hb).1) fun i hi => ⟨?_, fun j hj => ?_⟩
    · rw [List.length_take, List.length_drop]
      omega
    · rw [List.getElem?_take_of_lt hj, List.getElem?_drop]
  · rw [nth_eq]
    exact (h.each i hi).mono fun b hb _ => .inl hb.1
end Go.Proofs.YtehfmaiogbehgaaDoor
