/-
  Orders of a drawn region: the next operation alone; a value as a list of one.
  Conditions: none.
-/
import Derived.Test.YtpoanncombcemaaGreatDoorZBase
namespace Go.Proofs.YtpoanncombcemaaGreatDoor
open Go.RowKit

theorem AnyL.nxt {P : Program} {ops : Array Oper} {Q : Exit → Act → World → Prop} {md : Region.Mode} {S : Array Bool → World → Prop} {fuel : Nat} {l : Array Bool} {a : Act} {w : World} (i : Nat) (hr : Region.ready md ops l = [i]) (hC : Closed md ops l)
    (h : ∀ o, ops[i]? = some o → ∀ K' : Act → World → Prop, Shut (∀ a w, S (l.setIfInBounds i true) w → (Closed md ops (l.setIfInBounds i true) → S (l.setIfInBounds i true) w → AnyL P md ops Q S fuel (l.setIfInBounds i true) a w) → K' a w) → if Region.wanted o (yielded ops a.tmps) = true then Oper.wp P o a w K' Q else K' (a.put o.dst undef) w) :
    AnyL P md ops Q S (fuel + 1) l a w := by
  have hi : i ∈ Region.ready md ops l := by rw [hr]; simp
  obtain ⟨_, o, ho, _⟩ := mem_ready.1 hi
  exact AnyL.one o hr ho hC (h o ho)
theorem one_list {w : World} {ok : Nat → Prop} {a : V} {c0 c1 c2 c3 c4 c5 : Value} (h : KV w ok a [c0, c1, c2, c3, c4, c5]) (W : World) (hW : Old w W) :
    KVs (W.alloc (.cells #[c0, c1, c2, c3, c4, c5] 27)) (fun _ => True) [a] (.slice (some ⟨W.heap.size, 0, none⟩) 1 1) := by
  refine ⟨fun _ => [c0, c1, c2, c3, c4, c5], ⟨_, _, rfl, Nat.le_refl _, (fun h => by (cases h)), fun _ => ⟨W.heap.size, 0, _, _, _, rfl, trivial, Blk.new W _ _, fun i hi => ⟨rfl, fun j hj => ?_⟩⟩⟩, fun i hi => ?_⟩
  · obtain rfl : i = 0 := by simpa using hi
    match j, hj with
    | 0, _ => rfl
    | 1, _ => rfl
    | 2, _ => rfl
    | 3, _ => rfl
    | 4, _ => rfl
    | 5, _ => rfl
  · obtain rfl : i = 0 := by simpa using hi
    exact ((h.old hW).old ((Old.refl W).alloc _)).mono fun _ _ _ => trivial
theorem larray_any (w : World) (A : Option Addr) (n c : Nat) : Calls Tryz.prog 8 #[.slice A n c] w fun e w' => e = .returned (.agg #[.int .i64 5, .int .i64 0, .string ⟨#[]⟩, .slice A n c, .slice none 0 0, .slice none 0 0]) ∧ Old w w' := by
  go_enter Tryz.func8, Tryz.ntmps8
  go_wp2
  refine bodyPost_ret (v := .agg #[.int .i64 5, .int .i64 0, .string ⟨#[]⟩, .slice A n c, .slice none 0 0, .slice none 0 0]) (by simp [results, Tryz.results8, go_sem]) rfl ?_
  exact ⟨rfl, (Old.refl w).alloc _⟩
end Go.Proofs.YtpoanncombcemaaGreatDoor
