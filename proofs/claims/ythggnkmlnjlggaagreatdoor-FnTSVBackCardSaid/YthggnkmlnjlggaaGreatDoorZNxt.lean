/-
  Orders of a drawn region: the next operation alone; a value as a list of one.
  Conditions: none.
-/
import Derived.Test.YthggnkmlnjlggaaGreatDoorMem
import Derived.Test.YthggnkmlnjlggaaGreatDoorHeld
import Derived.Deep.Cut
import Derived.Deep.CutRange
import Derived.Deep.DeepCutAuto
import Derived.Deep.Light
import Derived.Deep.RegionLaw
import Derived.Deep.RegionHeld3
import Derived.Laws.Externs
import Derived.Laws.FloatArith
import Derived.Sort.KeysCollected
import Derived.WideAt
import Derived.Deep.DrawnRows
import Derived.Deep.DeepMust
namespace Go.Proofs.YthggnkmlnjlggaaGreatDoor
open Go.RowKit

theorem own_lt {w : World} {base n size : Nat} {e : TypeId} {v : Value} {xs : List Value} (h : w.ownsRow base e size v n xs) {b : Nat} (hb : v.ownBlock = some b) : base ≤ b ∧ b < w.heap.size := by
  rcases h.2 with ⟨rfl, _⟩ | ⟨g, cap, cur, rfl, hg, hh, r⟩
  · simp [Value.ownBlock] at hb
  · have : g = b := by simpa [Value.ownBlock] using hb
    subst this
    exact ⟨hg, (Array.getElem?_eq_some_iff.1 hh).1⟩
theorem KV.leaf (w : World) (ok : Nat → Prop) (k h : Int) (t : ByteArray) : KV w ok (.mk k h t [] [] []) [.int .i64 k, .int .i64 h, .string t, .slice none 0 0, .slice none 0 0, .slice none 0 0] :=
  .mk k h t [] [] [] _ _ _ (fun _ => []) (fun _ => []) (SliceV.nil _ _ _ _) (fun i hi => absurd hi (by simp)) (SliceV.nil _ _ _ _) (SliceV.nil _ _ _ _) (fun i hi => absurd hi (by simp))
/-- Six cells of one block are written anew. -/
theorem six_stores (w : World) (g : Nat) (u0 u1 u2 u3 u4 u5 : Value) : Chg (fun b => b ≠ g) w ((((((w.setCell ⟨g, 0, none⟩ u0).setCell ⟨g, 1, none⟩ u1).setCell ⟨g, 2, none⟩ u2).setCell ⟨g, 3, none⟩ u3).setCell ⟨g, 4, none⟩ u4).setCell ⟨g, 5, none⟩ u5) :=
  ((((((Chg.refl (fun b => b ≠ g) w).setCell _ _ (fun _ h => h rfl)).setCell _ _ (fun _ h => h rfl)).setCell _ _ (fun _ h => h rfl)).setCell _ _ (fun _ h => h rfl)).setCell _ _ (fun _ h => h rfl)).setCell _ _ (fun _ h => h rfl)
theorem old_below {n : Nat} {a b : World} (h : Below n a b) (hn : a.heap.size = n) : Old a b := by
  subst hn
  exact Old.of_below h
theorem size1 (w : World) (a : Obj) : (w.alloc a).heap.size = w.heap.size + 1 := by simp
theorem size2 (w : World) (a b : Obj) : ((w.alloc a).alloc b).heap.size = w.heap.size + 2 := by simp
theorem Blk.new_ {w : World} {B : Nat} (hB : w.heap.size = B) (cs : Array Value) (t : TypeId) : Blk (w.alloc (.cells cs t)) B cs t := by
  subst hB
  exact Blk.new w cs t
theorem Tryz.infoStr : (Tryz.prog.info? 9).map (fun i => (i.zero, i.size, i.bytes)) = some (some (.string ⟨#[]⟩), 1, 16) := by kernel_rfl
theorem news_a {W : World} {B : Nat} (hB : W.heap.size = B) (cs : Array Value) (t : TypeId) (n : Nat) : ∀ j u, cs.toList[j]? = some u → ((W.alloc (.cells cs t)).drewN n).cell? ((⟨B, 0, none⟩ : Addr).add j) = some u := by
  subst hB
  exact news_blk ((Blk.new W cs t).drewN n)
theorem news_b {W : World} {B : Nat} (hB : W.heap.size = B) (cs : Array Value) (t : TypeId) (o : Obj) (n : Nat) : ∀ j u, cs.toList[j]? = some u → (((W.alloc (.cells cs t)).alloc o).drewN n).cell? ((⟨B, 0, none⟩ : Addr).add j) = some u := by
  subst hB
  exact news_blk (((Blk.new W cs t).alloc o).drewN n)
theorem AnyL.nxt {P : Program} {ops : Array Oper} {Q : Exit → Act → World → Prop} {md : Region.Mode} {S : Array Bool → World → Prop} {fuel : Nat} {l : Array Bool} {a : Act} {w : World} (i : Nat) (hr : Region.ready md ops l = [i]) (hC : Closed md ops l)
    (h : ∀ o, ops[i]? = some o → ∀ K' : Act → World → Prop, Shut (∀ a w, S (l.setIfInBounds i true) w → (Closed md ops (l.setIfInBounds i true) → S (l.setIfInBounds i true) w → AnyL P md ops Q S fuel (l.setIfInBounds i true) a w) → K' a w) → if Region.wanted o (yielded ops a.tmps) = true then Oper.wp P o a w K' Q else K' (a.put o.dst undef) w) :
    AnyL P md ops Q S (fuel + 1) l a w := by
  have hi : i ∈ Region.ready md ops l := by rw [hr]; simp
  obtain ⟨_, o, ho, _⟩ := mem_ready.1 hi
  exact AnyL.one o hr ho hC (h o ho)
end Go.Proofs.YthggnkmlnjlggaaGreatDoor
