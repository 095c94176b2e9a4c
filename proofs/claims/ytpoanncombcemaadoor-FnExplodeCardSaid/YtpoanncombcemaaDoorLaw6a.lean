/-
  Explode is a text's code points, in order, and an error for all else.
  Conditions: none.
-/
import Derived.Test.YtpoanncombcemaaDoorLaid
import Derived.Test.YtpoanncombcemaaDoorExpl
import Derived.Deep.DeepMust
import Derived.Deep.DrawnRows
namespace Go.Proofs.YtpoanncombcemaaDoor
open Go.RowKit
attribute [local go_sem ↓] Go.wp_at_zero Go.wp_at_succ

theorem one_list {w : World} {ok : Nat → Prop} {a : V} {c0 c1 c2 c3 c4 c5 : Value} (h : KV w ok a [c0, c1, c2, c3, c4, c5]) (W : World) (hW : Old w W) :
    KVs (W.alloc (.cells #[c0, c1, c2, c3, c4, c5] 26)) (fun _ => True) [a] (.slice (some ⟨W.heap.size, 0, none⟩) 1 1) := by
  have hb' := Blk.new W #[c0, c1, c2, c3, c4, c5] 26
  refine ⟨fun _ => [c0, c1, c2, c3, c4, c5], ⟨_, _, rfl, Nat.le_refl _, (fun h => by cases h), fun _ => ⟨_, 0, _, _, _, rfl, trivial, hb', fun i hi => ?_⟩⟩, fun i hi => ?_⟩
  · match i, hi with
    | 0, _ => exact ⟨rfl, fun j hj => by match j, hj with | 0, _ | 1, _ | 2, _ | 3, _ | 4, _ | 5, _ => rfl⟩
  · match i, hi with
    | 0, _ => exact ((h.old (hW.alloc _)).mono fun _ _ _ => trivial)

/-- A value as it stands in memory. -/
def numC (l : List Nat) (i : Nat) : List Value := [.int .i64 3, .int .i64 (2 * ((l.getD i 0 : Nat) : Int)), .string nilS, .slice none 0 0, .slice none 0 0, .slice none 0 0]
theorem numC_len (l : List Nat) (n : Nat) : ∀ i, i < n → (numC l i).length = 6 := fun _ _ => rfl
theorem nums_kv {w : World} {base : Nat} {l : List Nat} {v : Value} (h : w.ownsRow base 26 6 v l.length (flat (numC l) l.length)) : KVs w (fun _ => True) (l.map fun (r : Nat) => V.num r) v := by
  refine ⟨numC l, ?_, fun i hi => ?_⟩
  · rw [List.length_map]
    exact SliceV.of_own h (fun _ _ => trivial) fun i hi => ⟨rfl, fun j hj => flat_at _ (numC_len l _) i hi j hj⟩
  · rw [List.length_map] at hi
    have e : (l.map fun (r : Nat) => V.num r)[i]'(by simpa using hi) = V.num (l.getD i 0 : Nat) := by simp [hi]
    rw [e]
    exact .mk _ _ _ [] [] [] _ _ _ (fun _ => []) (fun _ => []) (SliceV.nil _ _ _ _) (fun i hi => absurd hi (by simp)) (SliceV.nil _ _ _ _) (SliceV.nil _ _ _ _) (fun i hi => absurd hi (by simp))

/-- The loop. -/
structure Law6 (w wb wr : World) (bR bW N : Nat) (cR : Array Value) (l : List Nat) (v5 : Value) (k : Nat) (v3 : Value) : Prop where
  res : Blk wr bR cR 31
  want : Blk wr bW #[.int .i64 5, .int .i64 0, .string ⟨#[]⟩, v3, .slice none 0 0, .slice none 0 0] 26
  ints : SliceV wr (fun b => b < N ∧ b ≠ bW) v5 1 l.length fun i => [.int .i64 ((l.getD i 0 : Nat) : Int)]
  row : wr.ownsRow N 26 6 v3 k (flat (numC l) k)
  old : Old w wr
  oldb : Old wb wr
  size : N ≤ wr.heap.size
  low : w.heap.size ≤ bR ∧ bR < N ∧ w.heap.size ≤ bW ∧ bW < N ∧ bR ≠ bW ∧ wb.heap.size ≤ bW ∧ wb.heap.size ≤ N
theorem Law6.later {w wb wr w2 : World} {bR bW N : Nat} {cR : Array Value} {l : List Nat} {v5 : Value} {k : Nat} {v3 : Value} (h : Law6 w wb wr bR bW N cR l v5 k v3) (ho : Old wr w2) : Law6 w wb w2 bR bW N cR l v5 k v3 :=
  ⟨h.res.old ho, h.want.old ho, h.ints.old ho, own_old h.row ho, h.old.trans ho, h.oldb.trans ho, Nat.le_trans h.size ho.size, h.low⟩
theorem Law6.put {w wb wr w2 w3 : World} {bR bW N g c : Nat} {cR : Array Value} {l : List Nat} {v5 : Value} {k : Nat} {v3 : Value} (h : Law6 w wb wr bR bW N cR l v5 k v3) (ho : Old wr w2) (hown : w3.ownsRow N 26 6 (.slice (some ⟨g, 0, none⟩) (k + 1) c) (k + 1) (flat (numC l) k ++ numC l k)) (hg : w2.grownBy w3 v3.ownBlock) :
    Blk w3 bW #[.int .i64 5, .int .i64 0, .string ⟨#[]⟩, v3, .slice none 0 0, .slice none 0 0] 26 ∧ Law6 w wb (w3.setCell ⟨bW, 3, none⟩ (.slice (some ⟨g, 0, none⟩) (k + 1) c)) bR bW N cR l v5 (k + 1) (.slice (some ⟨g, 0, none⟩) (k + 1) c) := by
  have h2 := h.later ho
  have hlow := h.low
  have hc : Chg (fun b => b < N) w2 w3 := Chg.grown (ok := fun b => b < N) (Chg.refl _ _) hg fun k hk hb e => by
    have := (own_lt h2.row e.symm).1
    omega
  have hw := h2.want.chg hc hlow.2.2.2.1
  refine ⟨hw, (h2.res.chg hc hlow.2.1).far hlow.2.2.2.2.1 _, ?_, ?_, ?_, ?_, ?_, ?_, h.low⟩
  · have := hw.set 3 (.slice (some ⟨g, 0, none⟩) (k + 1) c)
    simpa using this
  · exact (h2.ints.step fun k hk hl => hc.block k hl hk.1).step fun k hk _ => Below.heap_setCell _ _ _ _ hk.2
  · refine own_chg hown ((Chg.refl (fun b => b ≠ bW) w3).setCell _ _ fun _ hh => hh rfl) fun k hk e => ?_
    have := (own_lt hown hk).1
    omega
  · exact (h2.old.grown hg fun k hk => by have := (own_lt h2.row hk).1; omega).setCell (by show w.heap.size ≤ bW; omega) _
  · exact (h2.oldb.grown hg fun k hk => by have := (own_lt h2.row hk).1; omega).setCell (by show wb.heap.size ≤ bW; omega) _
  · have := hg.size
    have := h2.size
    show N ≤ (w3.heap.modify _ _).size
    simp
    omega
end Go.Proofs.YtpoanncombcemaaDoor
