/-
  What the memory of a stack holds: plain words for the walks.
  Conditions: none.
-/
import Derived.Test.YtaehbephmjolcaaRows
import Derived.Test.YtaehbephmjolcaaStkPlain
import Derived.WalkKit
import Derived.ProofKit
import Derived.BigRegion
import Derived.Deep.RegionLaw
import Derived.Deep.RegionLawGrows
import Derived.Deep.AppendLies
import Derived.Deep.QuietTactic
import Derived.BigQuiet
import Derived.Lib.Hide
import Derived.WalkSmall
namespace Go.Proofs.Ytaehbephmjolcaa
open Go.RowKit

/-- What a world may have lost behind a call: of the blocks that were there, those that are 'ok' are as they were. -/
structure Chg (ok : Nat → Prop) (w w' : World) : Prop where
  os : w'.os = w.os
  tape : w'.tape = w.tape
  output : w'.output = w.output
  size : w.heap.size ≤ w'.heap.size
  block : ∀ k, k < w.heap.size → ok k → w'.heap[k]? = w.heap[k]?

theorem Chg.refl (ok : Nat → Prop) (w : World) : Chg ok w w := ⟨rfl, rfl, rfl, Nat.le_refl _, fun _ _ _ => rfl⟩
theorem Chg.trans {ok : Nat → Prop} {a b c : World} (h : Chg ok a b) (k : Chg ok b c) : Chg ok a c :=
  ⟨k.os.trans h.os, k.tape.trans h.tape, k.output.trans h.output, Nat.le_trans h.size k.size, fun i hi ho => (k.block i (Nat.lt_of_lt_of_le hi h.size) ho).trans (h.block i hi ho)⟩
theorem Chg.mono {ok ok' : Nat → Prop} {a b : World} (h : Chg ok a b) (hm : ∀ k, k < a.heap.size → ok' k → ok k) : Chg ok' a b := ⟨h.os, h.tape, h.output, h.size, fun k hk ho => h.block k hk (hm k hk ho)⟩
theorem Chg.drew {ok : Nat → Prop} {a b : World} (h : Chg ok a b) : Chg ok a b.drew := ⟨h.os, h.tape, h.output, h.size, h.block⟩
theorem Chg.drewN {ok : Nat → Prop} {a b : World} (h : Chg ok a b) (n : Nat) : Chg ok a (b.drewN n) := ⟨h.os, h.tape, h.output, h.size, h.block⟩
theorem Chg.alloc {ok : Nat → Prop} {a b : World} (h : Chg ok a b) (o : Obj) : Chg ok a (b.alloc o) :=
  h.trans ⟨rfl, rfl, rfl, by simp, fun k hk _ => Below.heap_alloc _ _ _ hk⟩
theorem Chg.setCell {ok : Nat → Prop} {a b : World} (h : Chg ok a b) (p : Addr) (u : Value) (hp : p.block < a.heap.size → ¬ ok p.block) : Chg ok a (b.setCell p u) := by
  refine ⟨h.os, h.tape, h.output, by simpa [World.setCell] using h.size, fun k hk ho => ?_⟩
  rw [Below.heap_setCell _ _ _ _ (fun e => by subst e; exact hp hk ho)]
  exact h.block k hk ho
theorem Chg.grown {ok : Nat → Prop} {a b c : World} {row : Option Nat} (h : Chg ok a b) (hg : b.grownBy c row) (hr : ∀ k, k < a.heap.size → ok k → some k ≠ row) : Chg ok a c :=
  ⟨hg.os.trans h.os, hg.tape.trans h.tape, hg.output.trans h.output, Nat.le_trans h.size hg.size, fun k hk ho => (hg.block k (Nat.lt_of_lt_of_le hk h.size) (hr k hk ho)).trans (h.block k hk ho)⟩
theorem Chg.below {B : Nat} {a b : World} (h : Chg (fun k => k < B) a b) (hB : B ≤ a.heap.size) : Below B a b :=
  ⟨h.os, h.tape, h.output, h.size, fun k hk => h.block k (Nat.lt_of_lt_of_le hk hB) hk⟩

/-- A block of cells, none of them frozen. -/
def Blk (w : World) (g : Nat) (cs : Array Value) (t : TypeId) : Prop := w.heap[g]? = some (.cells cs t (0, 0))
theorem Blk.lt {w : World} {g : Nat} {cs : Array Value} {t : TypeId} (h : Blk w g cs t) : g < w.heap.size := (Array.getElem?_eq_some_iff.1 h).1
theorem Blk.cell {w : World} {g : Nat} {cs : Array Value} {t : TypeId} (h : Blk w g cs t) (j : Nat) : w.cell? ⟨g, j, none⟩ = cs[j]? := by
  unfold Blk at h
  simp [World.cell?, h]
theorem Blk.frozen {w : World} {g : Nat} {cs : Array Value} {t : TypeId} (h : Blk w g cs t) (j : Nat) : w.frozen? ⟨g, j, none⟩ = false := by
  unfold Blk at h
  simp [World.frozen?, h]
theorem Blk.set {w : World} {g : Nat} {cs : Array Value} {t : TypeId} (h : Blk w g cs t) (j : Nat) (u : Value) : Blk (w.setCell ⟨g, j, none⟩ u) g (cs.setIfInBounds j u) t := by
  unfold Blk at *
  simp [World.setCell, Array.getElem?_modify, h]
theorem Blk.far {w : World} {g : Nat} {cs : Array Value} {t : TypeId} (h : Blk w g cs t) {p : Addr} (hp : g ≠ p.block) (u : Value) : Blk (w.setCell p u) g cs t := by
  unfold Blk at *
  rw [Below.heap_setCell _ _ _ _ hp]
  exact h
theorem Blk.alloc {w : World} {g : Nat} {cs : Array Value} {t : TypeId} (h : Blk w g cs t) (o : Obj) : Blk (w.alloc o) g cs t := by
  have hl := h.lt
  unfold Blk at *
  rw [Below.heap_alloc _ _ _ hl]
  exact h
theorem Blk.drew {w : World} {g : Nat} {cs : Array Value} {t : TypeId} (h : Blk w g cs t) : Blk w.drew g cs t := h
theorem Blk.drewN {w : World} {g : Nat} {cs : Array Value} {t : TypeId} (h : Blk w g cs t) (n : Nat) : Blk (w.drewN n) g cs t := h
theorem Blk.new (w : World) (cs : Array Value) (t : TypeId) : Blk (w.alloc (.cells cs t)) w.heap.size cs t := by
  show (w.heap.push _)[_]? = _
  simp
theorem Blk.chg {ok : Nat → Prop} {w w' : World} {g : Nat} {cs : Array Value} {t : TypeId} (h : Blk w g cs t) (hc : Chg ok w w') (ho : ok g) : Blk w' g cs t := (hc.block g h.lt ho).trans h
theorem Blk.ne {w : World} {g g' : Nat} {cs cs' : Array Value} {t t' : TypeId} (h : Blk w g cs t) (h' : Blk w g' cs' t') (ht : t ≠ t') : g ≠ g' := by
  rintro rfl
  unfold Blk at *
  rw [h] at h'
  injection h' with h'
  injection h' with _ h2
  exact ht h2

/-- What a row of the call's own holds, as a block. -/
theorem own_blk {w : World} {base : Nat} {e : TypeId} {size n : Nat} {v : Value} {xs : List Value} (h : w.ownsRow base e size v n xs) (k : Nat) (hk : v.ownBlock = some k) : ∃ cells, Blk w k cells e := by
  rcases h.2 with ⟨rfl, _⟩ | ⟨g, cap, cur, rfl, hg, hh, r⟩
  · simp [Value.ownBlock] at hk
  · have : g = k := by simpa [Value.ownBlock] using hk
    subst this
    exact ⟨cur, hh⟩
theorem own_ne {w : World} {base : Nat} {e : TypeId} {size n : Nat} {v : Value} {xs : List Value} (h : w.ownsRow base e size v n xs) {g : Nat} {cs : Array Value} {t : TypeId} (hb : Blk w g cs t) (ht : t ≠ e) : some g ≠ v.ownBlock := by
  intro he
  obtain ⟨c, hc⟩ := own_blk h g he.symm
  exact hb.ne hc ht rfl
theorem own_chg {ok : Nat → Prop} {w w' : World} {base : Nat} {e : TypeId} {size n : Nat} {v : Value} {xs : List Value} (h : w.ownsRow base e size v n xs) (hc : Chg ok w w') (ho : ∀ k, v.ownBlock = some k → ok k) : w'.ownsRow base e size v n xs := by
  obtain ⟨h1, h2⟩ := h
  refine ⟨h1, ?_⟩
  rcases h2 with h2 | ⟨g, cap, cur, rfl, hg, hh, r⟩
  · exact .inl h2
  · have hl : g < w.heap.size := (Array.getElem?_eq_some_iff.1 hh).1
    exact .inr ⟨g, cap, cur, rfl, hg, (hc.block g hl (ho g rfl)).trans hh, r⟩
theorem own_len {w : World} {base : Nat} {e : TypeId} {size n : Nat} {v : Value} {xs : List Value} (h : w.ownsRow base e size v n xs) : ∃ A c, v = .slice A n c := by
  rcases h.2 with ⟨rfl, rfl⟩ | ⟨g, cap, cur, rfl, _⟩
  · exact ⟨none, 0, rfl⟩
  · exact ⟨_, cap, rfl⟩

/-! ### A stack -/
/-- The cells of a stack's row: values and what they lie on. -/
def rowOf (ds : List (Int × Int)) : List Value := ds.flatMap fun d => [.iface 3 (.int .i64 d.1), .int .i64 d.2]
theorem rowOf_length (ds : List (Int × Int)) : (rowOf ds).length = ds.length * 2 := by
  induction ds with
  | nil => rfl
  | cons d ds ih =>
    simp only [rowOf, List.flatMap_cons, List.length_append, List.length_cons, List.length_nil] at *
    omega
theorem rowOf_append (a b : List (Int × Int)) : rowOf (a ++ b) = rowOf a ++ rowOf b := by simp [rowOf]
theorem rowOf_get (ds : List (Int × Int)) : ∀ (i : Nat) (h : i < ds.length), (rowOf ds)[i * 2]? = some (.iface 3 (.int .i64 ds[i].1)) ∧ (rowOf ds)[i * 2 + 1]? = some (.int .i64 ds[i].2) := by
  induction ds with
  | nil => intro i h; simp at h
  | cons d ds ih =>
    intro i h
    cases i with
    | zero => simp [rowOf]
    | succ i =>
      have := ih i (by simpa using h)
      rw [show (i + 1) * 2 = i * 2 + 1 + 1 by omega]
      simpa [rowOf] using this
theorem rowOf_set (ds : List (Int × Int)) : ∀ (i : Nat) (x : Int × Int), i < ds.length → rowOf (ds.set i x) = ((rowOf ds).set (i * 2) (.iface 3 (.int .i64 x.1))).set (i * 2 + 1) (.int .i64 x.2) := by
  induction ds with
  | nil => intro i x h; simp at h
  | cons d ds ih =>
    intro i x h
    cases i with
    | zero => simp [rowOf]
    | succ i =>
      have := ih i x (by simpa using h)
      rw [show (i + 1) * 2 = i * 2 + 1 + 1 by omega]
      simp only [rowOf, List.set_cons_succ, List.flatMap_cons, List.cons_append, List.nil_append] at *
      rw [this]

/-- The stack at block g: its row's value v, of the values ds, the place of its top, its limit. -/
structure Stk (w : World) (base g : Nat) (v : Value) (ds : List (Int × Int)) (i l : Int) : Prop where
  at_ : base ≤ g
  head : Blk w g #[v, .int .i64 i, .int .i64 l] 51
  row : w.ownsRow base 53 2 v ds.length (rowOf ds)

theorem Stk.chg {ok : Nat → Prop} {w w' : World} {base g : Nat} {v : Value} {ds : List (Int × Int)} {i l : Int} (h : Stk w base g v ds i l) (hc : Chg ok w w') (hg : ok g) (hv : ∀ k, v.ownBlock = some k → ok k) : Stk w' base g v ds i l :=
  ⟨h.at_, h.head.chg hc hg, own_chg h.row hc hv⟩
theorem Stk.sep {w : World} {base g : Nat} {v : Value} {ds : List (Int × Int)} {i l : Int} (h : Stk w base g v ds i l) : some g ≠ v.ownBlock := own_ne h.row h.head (by decide)

theorem Try.info53 : (Try.prog.info? 53).map (fun i => (i.zero, i.size, i.bytes)) = some (some (.agg #[.nilIface, .int .i64 0]), 2, 24) := by kernel_rfl

end Go.Proofs.Ytaehbephmjolcaa
