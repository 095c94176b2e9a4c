/-
  How values lie in memory: plain words for the walks.
  Conditions: none.
-/
import Derived.Test.YthggnkmlnjlggaaGreatDoorVal
import Derived.Test.YthggnkmlnjlggaaGreatDoorFlt
import Derived.Test.YthggnkmlnjlggaaGreatDoorRows
import Derived.WalkKit
import Derived.ProofKit
import Derived.BigRegion
import Derived.Deep.RegionLaw
import Derived.Deep.RegionLawGrows
import Derived.Deep.AppendLies
import Derived.Deep.QuietTactic
import Derived.BigQuiet
import Derived.Deep.LoopGhost
import Derived.Deep.OwnRows
import Derived.Deep.RegionWith
import Derived.Lib.Hide
import Derived.WalkSmall
import Derived.WalkSpells
import Derived.WalkLawsBesides
import Derived.Maps.RangeWalk
import Derived.Maps.OwnSet
import Derived.Maps.Ext
namespace Go.Proofs.YthggnkmlnjlggaaGreatDoor
open Go.RowKit

/-- What a call leaves: of the blocks that were there, those that are 'ok' are as they were. -/
structure Chg (ok : Nat → Prop) (w w' : World) : Prop where
  os : w'.os = w.os
  tape : w'.tape = w.tape
  output : w'.output = w.output
  size : w.heap.size ≤ w'.heap.size
  block : ∀ k, k < w.heap.size → ok k → w'.heap[k]? = w.heap[k]?

section
variable {ok ok' : Nat → Prop} {a b c w w' : World}
theorem Chg.refl (ok : Nat → Prop) (w : World) : Chg ok w w := ⟨rfl, rfl, rfl, Nat.le_refl _, fun _ _ _ => rfl⟩
theorem Chg.trans (h : Chg ok a b) (k : Chg ok b c) : Chg ok a c :=
  ⟨k.os.trans h.os, k.tape.trans h.tape, k.output.trans h.output, Nat.le_trans h.size k.size, fun i hi ho => (k.block i (Nat.lt_of_lt_of_le hi h.size) ho).trans (h.block i hi ho)⟩
/-- The second step may leave less: of what the first world has it must leave what is ok. -/
theorem Chg.then_ (h : Chg ok a b) (k : Chg ok' b c) (hk : ∀ i, i < a.heap.size → ok i → ok' i) : Chg ok a c :=
  ⟨k.os.trans h.os, k.tape.trans h.tape, k.output.trans h.output, Nat.le_trans h.size k.size, fun i hi ho => (k.block i (Nat.lt_of_lt_of_le hi h.size) (hk i hi ho)).trans (h.block i hi ho)⟩
theorem Chg.mono (h : Chg ok a b) (hm : ∀ k, k < a.heap.size → ok' k → ok k) : Chg ok' a b := ⟨h.os, h.tape, h.output, h.size, fun k hk ho => h.block k hk (hm k hk ho)⟩
theorem Chg.drew (h : Chg ok a b) : Chg ok a b.drew := ⟨h.os, h.tape, h.output, h.size, h.block⟩
theorem Chg.drewN (h : Chg ok a b) (n : Nat) : Chg ok a (b.drewN n) := ⟨h.os, h.tape, h.output, h.size, h.block⟩
theorem Chg.alloc (h : Chg ok a b) (o : Obj) : Chg ok a (b.alloc o) := h.trans ⟨rfl, rfl, rfl, by simp, fun k hk _ => Below.heap_alloc _ _ _ hk⟩
theorem Chg.setCell (h : Chg ok a b) (p : Addr) (u : Value) (hp : p.block < a.heap.size → ¬ ok p.block) : Chg ok a (b.setCell p u) := by
  refine ⟨h.os, h.tape, h.output, by simpa [World.setCell] using h.size, fun k hk ho => ?_⟩
  rw [Below.heap_setCell _ _ _ _ (fun e => by subst e; exact hp hk ho)]
  exact h.block k hk ho
theorem Chg.grown {row : Option Nat} (h : Chg ok a b) (hg : b.grownBy c row) (hr : ∀ k, k < a.heap.size → ok k → some k ≠ row) : Chg ok a c :=
  ⟨hg.os.trans h.os, hg.tape.trans h.tape, hg.output.trans h.output, Nat.le_trans h.size hg.size, fun k hk ho => (hg.block k (Nat.lt_of_lt_of_le hk h.size) (hr k hk ho)).trans (h.block k hk ho)⟩
theorem Chg.below {B : Nat} (h : Chg (fun k => k < B) a b) (hB : B ≤ a.heap.size) : Below B a b :=
  ⟨h.os, h.tape, h.output, h.size, fun k hk => h.block k (Nat.lt_of_lt_of_le hk hB) hk⟩
theorem Chg.of_below (h : Below a.heap.size a b) : Chg ok a b := ⟨h.os, h.tape, h.output, h.size, fun k hk _ => h.block k hk⟩
end
/-- All that was there is as it was. -/
def Old (w w' : World) : Prop := Chg (fun _ => True) w w'
section
variable {ok : Nat → Prop} {a b c w w' : World}
theorem Old.refl (w : World) : Old w w := Chg.refl _ w
theorem Old.trans (h : Old a b) (k : Old b c) : Old a c := Chg.trans h k
theorem Old.alloc (h : Old a b) (o : Obj) : Old a (b.alloc o) := Chg.alloc h o
theorem Old.drew (h : Old a b) : Old a b.drew := Chg.drew h
theorem Old.drewN (h : Old a b) (n : Nat) : Old a (b.drewN n) := Chg.drewN h n
theorem Old.size (h : Old a b) : a.heap.size ≤ b.heap.size := Chg.size h
theorem Old.chg (h : Old a b) : Chg ok a b := Chg.mono h fun _ _ _ => trivial
theorem Old.below (h : Old a b) : Below a.heap.size a b := ⟨h.os, h.tape, h.output, Chg.size h, fun k hk => h.block k hk trivial⟩
theorem Old.of_below (h : Below a.heap.size a b) : Old a b := Chg.of_below h
theorem Old.setCell (h : Old a b) {p : Addr} (hp : a.heap.size ≤ p.block) (u : Value) : Old a (b.setCell p u) := Chg.setCell h p u fun hlt => absurd hp (by omega)
theorem Old.grown {row : Option Nat} (h : Old a b) (hg : b.grownBy c row) (hr : ∀ k, row = some k → a.heap.size ≤ k) : Old a c := Chg.grown h hg fun k hk _ e => by have := hr k e.symm; omega
/-- A step that touches new blocks alone. -/
theorem Old.chg_ (h : Old a b) (k : Chg ok b c) (hk : ∀ i, i < a.heap.size → ok i) : Old a c := Chg.then_ h k fun i hi _ => hk i hi
theorem Old.cell (h : Old a b) {p : Addr} {v : Value} (hc : a.cell? p = some v) : b.cell? p = some v := (World.cell?_of_block (w := a) (h.block p.block (World.block_lt_of_cell? a p hc) trivial)).trans hc
theorem Old.frozen (h : Old a b) {p : Addr} (hp : p.block < a.heap.size) (hf : a.frozen? p = false) : b.frozen? p = false := (World.frozen?_of_block (w := a) (h.block p.block hp trivial)).trans hf
end

/-- A block of cells, none of them frozen. -/
def Blk (w : World) (g : Nat) (cs : Array Value) (t : TypeId) : Prop := w.heap[g]? = some (.cells cs t (0, 0))
section
variable {ok : Nat → Prop} {w w' : World} {g g' : Nat} {cs cs' : Array Value} {t t' : TypeId}
theorem Blk.lt (h : Blk w g cs t) : g < w.heap.size := (Array.getElem?_eq_some_iff.1 h).1
theorem Blk.cell (h : Blk w g cs t) (j : Nat) : w.cell? ⟨g, j, none⟩ = cs[j]? := by
  unfold Blk at h
  simp [World.cell?, h]
theorem Blk.frozen (h : Blk w g cs t) (j : Nat) : w.frozen? ⟨g, j, none⟩ = false := by
  unfold Blk at h
  simp [World.frozen?, h]
theorem Blk.set (h : Blk w g cs t) (j : Nat) (u : Value) : Blk (w.setCell ⟨g, j, none⟩ u) g (cs.setIfInBounds j u) t := by
  unfold Blk at *
  simp [World.setCell, Array.getElem?_modify, h]
theorem Blk.far (h : Blk w g cs t) {p : Addr} (hp : g ≠ p.block) (u : Value) : Blk (w.setCell p u) g cs t := by
  unfold Blk at *
  rw [Below.heap_setCell _ _ _ _ hp]
  exact h
theorem Blk.alloc (h : Blk w g cs t) (o : Obj) : Blk (w.alloc o) g cs t := by
  have hl := h.lt
  unfold Blk at *
  rw [Below.heap_alloc _ _ _ hl]
  exact h
theorem Blk.drew (h : Blk w g cs t) : Blk w.drew g cs t := h
theorem Blk.drewN (h : Blk w g cs t) (n : Nat) : Blk (w.drewN n) g cs t := h
theorem Blk.new (w : World) (cs : Array Value) (t : TypeId) : Blk (w.alloc (.cells cs t)) w.heap.size cs t := by
  show (w.heap.push _)[_]? = _
  simp
theorem Blk.chg (h : Blk w g cs t) (hc : Chg ok w w') (ho : ok g) : Blk w' g cs t := (hc.block g h.lt ho).trans h
theorem Blk.old (h : Blk w g cs t) (hc : Old w w') : Blk w' g cs t := h.chg hc trivial
theorem Blk.ne (h : Blk w g cs t) (h' : Blk w g' cs' t') (ht : t ≠ t') : g ≠ g' := by
  rintro rfl
  unfold Blk at *
  rw [h] at h'
  injection h' with h'
  injection h' with _ h2
  exact ht h2
end

/-! ### Rows of the call's own -/
section
variable {ok : Nat → Prop} {w w' : World} {base base' : Nat} {e : TypeId} {size n : Nat} {v : Value} {xs : List Value}
theorem own_blk (h : w.ownsRow base e size v n xs) (k : Nat) (hk : v.ownBlock = some k) : ∃ cells, Blk w k cells e := by
  rcases h.2 with ⟨rfl, _⟩ | ⟨g, cap, cur, rfl, hg, hh, r⟩
  · simp [Value.ownBlock] at hk
  · have : g = k := by simpa [Value.ownBlock] using hk
    subst this
    exact ⟨cur, hh⟩
theorem own_ne (h : w.ownsRow base e size v n xs) {g : Nat} {cs : Array Value} {t : TypeId} (hb : Blk w g cs t) (ht : t ≠ e) : some g ≠ v.ownBlock := by
  intro he
  obtain ⟨c, hc⟩ := own_blk h g he.symm
  exact hb.ne hc ht rfl
theorem own_chg (h : w.ownsRow base e size v n xs) (hc : Chg ok w w') (ho : ∀ k, v.ownBlock = some k → ok k) : w'.ownsRow base e size v n xs := by
  obtain ⟨h1, h2⟩ := h
  refine ⟨h1, ?_⟩
  rcases h2 with h2 | ⟨g, cap, cur, rfl, hg, hh, r⟩
  · exact .inl h2
  · have hl : g < w.heap.size := (Array.getElem?_eq_some_iff.1 hh).1
    exact .inr ⟨g, cap, cur, rfl, hg, (hc.block g hl (ho g rfl)).trans hh, r⟩
theorem own_old (h : w.ownsRow base e size v n xs) (hc : Old w w') : w'.ownsRow base e size v n xs := own_chg h hc fun _ _ => trivial
theorem own_len (h : w.ownsRow base e size v n xs) : ∃ A c, v = .slice A n c := by
  rcases h.2 with ⟨rfl, rfl⟩ | ⟨g, cap, cur, rfl, _⟩
  · exact ⟨none, 0, rfl⟩
  · exact ⟨_, cap, rfl⟩
theorem own_cap {c : Nat} {A : Option Addr} (h : w.ownsRow base e size (.slice A n c) n xs) : n ≤ c := by
  rcases h.2 with ⟨h0, h1⟩ | ⟨g, cap, cur, h0, _, _, h1, _⟩
  · omega
  · cases h0; exact h1
theorem own_lower (h : w.ownsRow base e size v n xs) (hb : base' ≤ base) : w.ownsRow base' e size v n xs := by
  obtain ⟨h1, h2⟩ := h
  refine ⟨h1, ?_⟩
  rcases h2 with h2 | ⟨g, cap, cur, hv, hg, r⟩
  · exact .inl h2
  · exact .inr ⟨g, cap, cur, hv, by omega, r⟩
end
theorem one_one {a : Value} (ha : a.oneCell' = true) : ∀ u ∈ [a], u.oneCell' = true := by
  intro u hu
  rw [List.mem_singleton] at hu
  rw [hu]
  exact ha
theorem news_one {W : World} {B : Nat} (hB : W.heap.size = B) (a : Value) (t : TypeId) (k : Nat) : ∀ j u, [a][j]? = some u → ((W.alloc (.cells #[a] t)).drewN k).cell? ((⟨B, 0, none⟩ : Addr).add j) = some u := by
  subst hB
  intro j u hj
  match j, hj with
  | 0, hj => simp at hj; subst hj; simp [Addr.add]
  | j + 1, hj => simp at hj
theorem news_blk {W : World} {B : Nat} {cs : Array Value} {t : TypeId} (h : Blk W B cs t) : ∀ j u, cs.toList[j]? = some u → W.cell? ((⟨B, 0, none⟩ : Addr).add j) = some u := by
  intro j u hj
  have hadd : (⟨B, 0, none⟩ : Addr).add j = ⟨B, j, none⟩ := by unfold Addr.add; split <;> simp_all
  rw [hadd, h.cell]
  simpa using hj
/-- make of n elements of some cells each. -/
theorem run_make_wide {P : Program} (t e : TypeId) (z : Value) (size bytes : Nat) (ht : P.underlying t = some (.slice e)) (hinfo : (P.info? e).map (fun i => (i.zero, i.size, i.bytes)) = some (some z, size, bytes))
    (kl kc : IntKind) (n : Nat) (hbytes : bytes * n ≤ 281474976710656) (h63 : n ≤ 9223372036854775807) (w : World) :
    (Instr.makeSlice t (.int kl (n : Int)) (.int kc (n : Int))).run P w = .ok (.slice (some ⟨w.heap.size, 0, none⟩) n n) (w.alloc (.cells (madeCells z.cells (n * size)) e)) := by
  obtain ⟨i, hi, hz, hs, hb⟩ := info_parts hinfo
  have hb' : (i.bytes : Int) * (n : Int) ≤ 281474976710656 := by
    have h : ((i.bytes * n : Nat) : Int) ≤ 281474976710656 := by rw [hb]; omega
    rwa [Int.natCast_mul] at h
  have hr := run_make (P := P) w t e i z ht hi hz kl kc n n (by omega) (Int.le_refl _) hb' (by omega)
  simp only [Int.toNat_natCast, hs] at hr
  exact hr

/-! ### Slices that are read -/
/-- v is a slice of n elements of 'size' cells each; element i's cells are C i; they lie in a block that is ok. -/
def SliceV (w : World) (ok : Nat → Prop) (v : Value) (size n : Nat) (C : Nat → List Value) : Prop :=
  ∃ A c, v = .slice A n c ∧ n ≤ c ∧ (A = none → c = 0) ∧ (0 < n → ∃ b o cs t fz, A = some ⟨b, o, none⟩ ∧ ok b ∧ w.heap[b]? = some (.cells cs t fz) ∧ ∀ i, i < n → (C i).length = size ∧ ∀ j, j < size → cs[o + i * size + j]? = (C i)[j]?)
section
variable {ok ok' : Nat → Prop} {w w' : World} {v : Value} {size n : Nat} {C C' : Nat → List Value}
theorem SliceV.step (h : SliceV w ok v size n C) (hm : ∀ k, ok k → k < w.heap.size → w'.heap[k]? = w.heap[k]?) : SliceV w' ok v size n C := by
  obtain ⟨A, c, rfl, h1, h2, h3⟩ := h
  refine ⟨A, c, rfl, h1, h2, fun hn => ?_⟩
  obtain ⟨b, o, cs, t, fz, rfl, ho, hb, hr⟩ := h3 hn
  exact ⟨b, o, cs, t, fz, rfl, ho, (hm b ho (Array.getElem?_eq_some_iff.1 hb).1).trans hb, hr⟩
theorem SliceV.mono (h : SliceV w ok v size n C) (hm : ∀ k, ok k → k < w.heap.size → ok' k) : SliceV w ok' v size n C := by
  obtain ⟨A, c, rfl, h1, h2, h3⟩ := h
  refine ⟨A, c, rfl, h1, h2, fun hn => ?_⟩
  obtain ⟨b, o, cs, t, fz, rfl, ho, hb, hr⟩ := h3 hn
  exact ⟨b, o, cs, t, fz, rfl, hm b ho (Array.getElem?_eq_some_iff.1 hb).1, hb, hr⟩
theorem SliceV.chg (h : SliceV w ok v size n C) (hc : Chg ok w w') : SliceV w' ok v size n C := h.step fun k ho hk => hc.block k hk ho
theorem SliceV.old (h : SliceV w ok v size n C) (hc : Old w w') : SliceV w' ok v size n C := h.chg hc.chg
theorem SliceV.congr (h : SliceV w ok v size n C) (hC : ∀ i, i < n → C i = C' i) : SliceV w ok v size n C' := by
  obtain ⟨A, c, rfl, h1, h2, h3⟩ := h
  refine ⟨A, c, rfl, h1, h2, fun hn => ?_⟩
  obtain ⟨b, o, cs, t, fz, rfl, ho, hb, hr⟩ := h3 hn
  exact ⟨b, o, cs, t, fz, rfl, ho, hb, fun i hi => by rw [← hC i hi]; exact hr i hi⟩
theorem SliceV.len (h : SliceV w ok v size n C) : ∃ A c, v = .slice A n c ∧ n ≤ c := by
  obtain ⟨A, c, rfl, h1, _⟩ := h
  exact ⟨A, c, rfl, h1⟩
/-- Element i's address, and its cells. -/
theorem SliceV.at_ {A : Option Addr} {m c : Nat} (h : SliceV w ok (.slice A m c) size n C) (i : Nat) (hi : i < n) : ∃ b o, A = some ⟨b, o, none⟩ ∧ b < w.heap.size ∧ (C i).length = size ∧ ∀ j, j < size → w.cell? ⟨b, o + i * size + j, none⟩ = (C i)[j]? := by
  obtain ⟨A', c', he, h1, h2, h3⟩ := h
  cases he
  obtain ⟨b, o, cs, t, fz, rfl, ho, hb, hr⟩ := h3 (by omega)
  refine ⟨b, o, rfl, (Array.getElem?_eq_some_iff.1 hb).1, (hr i hi).1, fun j hj => ?_⟩
  rw [← (hr i hi).2 j hj]
  simp [World.cell?, hb]
theorem SliceV.nil (w : World) (ok : Nat → Prop) (size : Nat) (C : Nat → List Value) : SliceV w ok (.slice none 0 0) size 0 C := ⟨none, 0, rfl, Nat.le_refl _, fun _ => rfl, fun h => absurd h (by omega)⟩
/-- A row of the call's own, read. -/
theorem SliceV.of_own {base : Nat} {e : TypeId} {xs : List Value} (h : w.ownsRow base e size v n xs) (ho : ∀ k, v.ownBlock = some k → ok k) (hC : ∀ i, i < n → (C i).length = size ∧ ∀ j, j < size → xs[i * size + j]? = (C i)[j]?) : SliceV w ok v size n C := by
  rcases h.2 with ⟨rfl, rfl⟩ | ⟨g, cap, cur, rfl, hb, hh, hn, _, _, ht⟩
  · exact SliceV.nil w ok size C
  · refine ⟨_, cap, rfl, hn, (fun h => by (cases h)), fun _ => ⟨g, 0, cur, e, (0, 0), rfl, ho g rfl, hh, fun i hi => ⟨(hC i hi).1, fun j hj => ?_⟩⟩⟩
    have hlt : i * size + j < n * size := by
      calc i * size + j < i * size + size := by omega
        _ = (i + 1) * size := by rw [Nat.succ_mul]
        _ ≤ n * size := Nat.mul_le_mul_right _ hi
    rw [← (hC i hi).2 j hj, ← ht, List.getElem?_take_of_lt hlt, Nat.zero_add]
    simp
end

/-! ### Values of the thin package -/
inductive KV (w : World) (ok : Nat → Prop) : V → List Value → Prop
  | mk (k h : Int) (t : ByteArray) (l : List V) (ks : List ByteArray) (vs : List V) (v1 v2 v3 : Value) (C1 C3 : Nat → List Value)
    (s1 : SliceV w ok v1 6 l.length C1) (r1 : ∀ i (hi : i < l.length), KV w ok l[i] (C1 i)) (s2 : SliceV w ok v2 1 ks.length fun i => [.string (ks.getD i nilS)])
    (s3 : SliceV w ok v3 6 vs.length C3) (r3 : ∀ i (hi : i < vs.length), KV w ok vs[i] (C3 i)) : KV w ok (.mk k h t l ks vs) [.int .i64 k, .int .i64 h, .string t, v1, v2, v3]
section
variable {ok ok' : Nat → Prop} {w w' : World} {v : V} {cs : List Value}
theorem KV.step (h : KV w ok v cs) (hm : ∀ k, ok k → k < w.heap.size → w'.heap[k]? = w.heap[k]?) : KV w' ok v cs := by
  induction h with
  | mk k h t l ks vs v1 v2 v3 C1 C3 s1 r1 s2 s3 r3 i1 i3 => exact .mk k h t l ks vs v1 v2 v3 C1 C3 (s1.step hm) i1 (s2.step hm) (s3.step hm) i3
theorem KV.mono (h : KV w ok v cs) (hm : ∀ k, ok k → k < w.heap.size → ok' k) : KV w ok' v cs := by
  induction h with
  | mk k h t l ks vs v1 v2 v3 C1 C3 s1 r1 s2 s3 r3 i1 i3 => exact .mk k h t l ks vs v1 v2 v3 C1 C3 (s1.mono hm) i1 (s2.mono hm) (s3.mono hm) i3
theorem KV.chg (h : KV w ok v cs) (hc : Chg ok w w') : KV w' ok v cs := h.step fun k ho hk => hc.block k hk ho
theorem KV.old (h : KV w ok v cs) (hc : Old w w') : KV w' ok v cs := h.chg hc.chg
theorem KV.bound (h : KV w ok v cs) : KV w (fun k => ok k ∧ k < w.heap.size) v cs := h.mono fun _ ho hk => ⟨ho, hk⟩
theorem KV.any (h : KV w ok v cs) : KV w (fun _ => True) v cs := h.mono fun _ _ _ => trivial
theorem KV.null (w : World) (ok : Nat → Prop) : KV w ok V.null [.int .i64 0, .int .i64 0, .string nilS, .slice none 0 0, .slice none 0 0, .slice none 0 0] :=
  .mk 0 0 nilS [] [] [] _ _ _ (fun _ => []) (fun _ => []) (SliceV.nil _ _ _ _) (fun i hi => absurd hi (by simp)) (SliceV.nil _ _ _ _) (SliceV.nil _ _ _ _) (fun i hi => absurd hi (by simp))
theorem KV.form {k h : Int} {t : ByteArray} {l : List V} {ks : List ByteArray} {vs : List V} (hv : KV w ok (.mk k h t l ks vs) cs) : ∃ v1 v2 v3 C1 C3, cs = [.int .i64 k, .int .i64 h, .string t, v1, v2, v3] ∧ SliceV w ok v1 6 l.length C1 ∧ (∀ i (hi : i < l.length), KV w ok l[i] (C1 i)) ∧
    SliceV w ok v2 1 ks.length (fun i => [.string (ks.getD i nilS)]) ∧ SliceV w ok v3 6 vs.length C3 ∧ (∀ i (hi : i < vs.length), KV w ok vs[i] (C3 i)) := by
  cases hv with
  | mk k h t l ks vs v1 v2 v3 C1 C3 s1 r1 s2 s3 r3 => exact ⟨v1, v2, v3, C1, C3, rfl, s1, r1, s2, s3, r3⟩
theorem KV.length (hv : KV w ok v cs) : cs.length = 6 := by cases hv; rfl
/-- A list of values as a slice. -/
def KVs (w : World) (ok : Nat → Prop) (l : List V) (v : Value) : Prop := ∃ C, SliceV w ok v 6 l.length C ∧ ∀ i (hi : i < l.length), KV w ok l[i] (C i)
end

/-! ### Values of the program -/
/-- A map's elements, held as they are. -/
def held (v : Value) : Option (DataW Value × List MemPlace) := some (.held v, [])
def entry (k : ByteArray) (x : Value) : Lit × DataW Value := (.string k.data.toList, .held x)
def mapD (ks : List ByteArray) (xs : List Value) : DataW Value := .map (List.zipWith entry ks xs)
def MapV (w : World) (b : Nat) (ks : List ByteArray) (xs : List Value) : Prop := ∃ n, w.ownsMap Tryz.prog 9 held b n (mapD ks xs) ∧ n ≤ 1048577

inductive KJ (w : World) (ok : Nat → Prop) : J → Value → Prop
  | nil : KJ w ok .nil .nilIface
  | bool (b : Bool) : KJ w ok (.bool b) (.iface 4 (.bool b))
  | int (n : Int) : KJ w ok (.int n) (.iface 3 (.int .i64 n))
  | flt (h : Int) : KJ w ok (.flt h) (.iface 58 (.float .f64 (fhalf h)))
  | str (s : ByteArray) : KJ w ok (.str s) (.iface 9 (.string s))
  | arr (l : List J) (v : Value) (X : Nat → Value) (s : SliceV w ok v 1 l.length fun i => [X i]) (r : ∀ i (hi : i < l.length), KJ w ok l[i] (X i)) : KJ w ok (.arr l) (.iface 59 v)
  | obj (ks : List ByteArray) (vs : List J) (b : Nat) (xs : List Value) (hb : ok b) (hm : MapV w b ks xs) (hx : xs.length = vs.length) (r : ∀ i (hi : i < vs.length), KJ w ok vs[i] (xs.getD i .nilIface)) : KJ w ok (.obj ks vs) (.iface 62 (.map (some b)))
theorem MapV.step {w w' : World} {b : Nat} {ks : List ByteArray} {xs : List Value} (h : MapV w b ks xs) (hm : w'.heap[b]? = w.heap[b]?) : MapV w' b ks xs := by
  obtain ⟨n, ⟨es, clock, hb, r⟩, hn⟩ := h
  exact ⟨n, ⟨es, clock, hm.trans hb, r⟩, hn⟩
theorem MapV.lt {w : World} {b : Nat} {ks : List ByteArray} {xs : List Value} (h : MapV w b ks xs) : b < w.heap.size := by
  obtain ⟨n, h, _⟩ := h
  exact h.lt
section
variable {ok ok' : Nat → Prop} {w w' : World} {j : J} {x : Value}
theorem KJ.step (h : KJ w ok j x) (hm : ∀ k, ok k → k < w.heap.size → w'.heap[k]? = w.heap[k]?) : KJ w' ok j x := by
  induction h with
  | nil => exact .nil
  | bool b => exact .bool b
  | int n => exact .int n
  | flt h => exact .flt h
  | str s => exact .str s
  | arr l v X s r ih => exact .arr l v X (s.step hm) ih
  | obj ks vs b xs hb hmv hx r ih => exact .obj ks vs b xs hb (hmv.step (hm b hb hmv.lt)) hx ih
theorem KJ.mono (h : KJ w ok j x) (hm : ∀ k, ok k → k < w.heap.size → ok' k) : KJ w ok' j x := by
  induction h with
  | nil => exact .nil
  | bool b => exact .bool b
  | int n => exact .int n
  | flt h => exact .flt h
  | str s => exact .str s
  | arr l v X s r ih => exact .arr l v X (s.mono hm) ih
  | obj ks vs b xs hb hmv hx r ih => exact .obj ks vs b xs (hm b hb hmv.lt) hmv hx ih
theorem KJ.chg (h : KJ w ok j x) (hc : Chg ok w w') : KJ w' ok j x := h.step fun k ho hk => hc.block k hk ho
theorem KJ.old (h : KJ w ok j x) (hc : Old w w') : KJ w' ok j x := h.chg hc.chg
theorem KJ.bound (h : KJ w ok j x) : KJ w (fun k => ok k ∧ k < w.heap.size) j x := h.mono fun _ ho hk => ⟨ho, hk⟩
end
def KJs (w : World) (ok : Nat → Prop) (l : List J) (v : Value) : Prop := ∃ X : Nat → Value, SliceV w ok v 1 l.length (fun i => [X i]) ∧ ∀ i (hi : i < l.length), KJ w ok l[i] (X i)

end Go.Proofs.YthggnkmlnjlggaaGreatDoor
