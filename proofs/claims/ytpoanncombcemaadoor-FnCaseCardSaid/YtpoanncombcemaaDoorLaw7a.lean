/-
  Two answers of one value are laid side by side, in whatever order: what the walk needs.
  Conditions: none.
-/
import Derived.Test.YtpoanncombcemaaDoorLaid
import Derived.Test.YtpoanncombcemaaDoorCase
import Derived.Deep.Cut
import Derived.Deep.CutRange
import Derived.Deep.DeepMust
import Derived.Deep.DrawnRows
namespace Go.Proofs.YtpoanncombcemaaDoor
open Go.RowKit

theorem one_list {w : World} {ok : Nat → Prop} {a : V} {c0 c1 c2 c3 c4 c5 : Value} (h : KV w ok a [c0, c1, c2, c3, c4, c5]) (W : World) (hW : Old w W) :
    KVs (W.alloc (.cells #[c0, c1, c2, c3, c4, c5] 26)) (fun _ => True) [a] (.slice (some ⟨W.heap.size, 0, none⟩) 1 1) := by
  have hb' := Blk.new W #[c0, c1, c2, c3, c4, c5] 26
  refine ⟨fun _ => [c0, c1, c2, c3, c4, c5], ⟨_, _, rfl, Nat.le_refl _, (fun h => by cases h), fun _ => ⟨_, 0, _, _, _, rfl, trivial, hb', fun i hi => ?_⟩⟩, fun i hi => ?_⟩
  · match i, hi with
    | 0, _ => exact ⟨rfl, fun j hj => by match j, hj with | 0, _ | 1, _ | 2, _ | 3, _ | 4, _ | 5, _ => rfl⟩
  · match i, hi with
    | 0, _ => exact ((h.old (hW.alloc _)).mono fun _ _ _ => trivial)

theorem AnyL.each {P : Program} {ops : Array Oper} {Q : Exit → Act → World → Prop} {md : Region.Mode} {S : Array Bool → World → Prop} {fuel : Nat} {l : Array Bool} {a : Act} {w : World} (rs : List Nat) (hr : Region.ready md ops l = rs) (hne : rs ≠ []) (hC : Closed md ops l)
    (h : ∀ i ∈ rs, ∀ o, ops[i]? = some o → ∀ K' : Act → World → Prop, Shut (∀ a w, S (l.setIfInBounds i true) w → (Closed md ops (l.setIfInBounds i true) → S (l.setIfInBounds i true) w → AnyL P md ops Q S fuel (l.setIfInBounds i true) a w) → K' a w) → if Region.wanted o (yielded ops a.tmps) = true then Oper.wp P o a w K' Q else K' (a.put o.dst undef) w) :
    AnyL P md ops Q S (fuel + 1) l a w := by
  refine ⟨fun h0 => absurd (hr ▸ h0) hne, fun i hi => ?_⟩
  obtain ⟨_, o, ho, _⟩ := mem_ready.1 hi
  exact wpOp_step ho fun K' hK => h i (hr ▸ hi) o ho K' fun a w hSw hA => hK a w ⟨hSw, hA (hC.set hi) hSw⟩
theorem AnyL.nxt {P : Program} {ops : Array Oper} {Q : Exit → Act → World → Prop} {md : Region.Mode} {S : Array Bool → World → Prop} {fuel : Nat} {l : Array Bool} {a : Act} {w : World} (i : Nat) (hr : Region.ready md ops l = [i]) (hC : Closed md ops l)
    (h : ∀ o, ops[i]? = some o → ∀ K' : Act → World → Prop, Shut (∀ a w, S (l.setIfInBounds i true) w → (Closed md ops (l.setIfInBounds i true) → S (l.setIfInBounds i true) w → AnyL P md ops Q S fuel (l.setIfInBounds i true) a w) → K' a w) → if Region.wanted o (yielded ops a.tmps) = true then Oper.wp P o a w K' Q else K' (a.put o.dst undef) w) :
    AnyL P md ops Q S (fuel + 1) l a w :=
  AnyL.each [i] hr (by simp) hC fun j hj o ho => by
    obtain rfl := List.mem_singleton.1 hj
    exact h o ho

theorem Blk.seven {w : World} {g : Nat} {t : TypeId} {a0 a1 a2 a3 a4 a5 a6 : Value} (h : Blk w g #[a0, a1, a2, a3, a4, a5, a6] t) (u0 u1 u2 u3 u4 u5 u6 : Value) : Blk (((((((w.setCell ⟨g, 0, none⟩ u0).setCell ⟨g, 1, none⟩ u1).setCell ⟨g, 2, none⟩ u2).setCell ⟨g, 3, none⟩ u3).setCell ⟨g, 4, none⟩ u4).setCell ⟨g, 5, none⟩ u5).setCell ⟨g, 6, none⟩ u6) g #[u0, u1, u2, u3, u4, u5, u6] t := by
  have := ((((((h.set 0 u0).set 1 u1).set 2 u2).set 3 u3).set 4 u4).set 5 u5).set 6 u6
  simpa using this
theorem Blk.seven_far {w : World} {g g' : Nat} {t : TypeId} {cs : Array Value} (h : Blk w g cs t) (hne : g ≠ g') (u0 u1 u2 u3 u4 u5 u6 : Value) : Blk (((((((w.setCell ⟨g', 0, none⟩ u0).setCell ⟨g', 1, none⟩ u1).setCell ⟨g', 2, none⟩ u2).setCell ⟨g', 3, none⟩ u3).setCell ⟨g', 4, none⟩ u4).setCell ⟨g', 5, none⟩ u5).setCell ⟨g', 6, none⟩ u6) g cs t :=
  ((((((h.far (p := ⟨g', 0, none⟩) hne u0).far (p := ⟨g', 1, none⟩) hne u1).far (p := ⟨g', 2, none⟩) hne u2).far (p := ⟨g', 3, none⟩) hne u3).far (p := ⟨g', 4, none⟩) hne u4).far (p := ⟨g', 5, none⟩) hne u5).far (p := ⟨g', 6, none⟩) hne u6

/-- An answer, and a block for it. -/
def ResAt (w : World) (b : Nat) (v : V) : Prop := ∃ c0 c1 c2 c3 c4 c5, Blk w b #[c0, c1, c2, c3, c4, c5, .int .i64 0] 31 ∧ KV w (fun _ => True) v [c0, c1, c2, c3, c4, c5]
end Go.Proofs.YtpoanncombcemaaDoor
