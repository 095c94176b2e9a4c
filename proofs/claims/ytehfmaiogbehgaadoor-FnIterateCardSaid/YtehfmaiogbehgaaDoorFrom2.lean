/-
  A list of the program as the package hands it back.
  Conditions: the values are right.
-/
import Derived.Test.YtehfmaiogbehgaaDoorFrom
import Derived.Deep.DeepMust
namespace Go.Proofs.YtehfmaiogbehgaaDoor
open Go.RowKit

def FromGo (w : World) (j : J) (e : Ending) (w' : World) : Prop :=
  ∃ c0 c1 c2 c3 c4 c5, e = .returned (.tuple #[.agg #[c0, c1, c2, c3, c4, c5], .bool true]) ∧ KV w' (fun b => w.heap.size ≤ b) (ofJ j) [c0, c1, c2, c3, c4, c5] ∧ Old w w'
def Froms (j : J) : Prop := ∀ (w : World) (ok : Nat → Prop) (x : Value), KJ w ok j x → Calls Tryd.prog 15 #[x] w (FromGo w j)

theorem Tryd.infoVal : (Tryd.prog.info? 27).map (fun i => (i.zero, i.size, i.bytes)) = some (some (.agg #[.int .i64 0, .int .i64 0, .string ⟨#[]⟩, .slice none 0 0, .slice none 0 0, .slice none 0 0]), 6, 104) := by kernel_rfl

/-- What has been turned so far. -/
structure Came (w wr : World) (l : List J) (k : Nat) (v : Value) (xs : List Value) : Prop where
  res : Blk wr w.heap.size #[.int .i64 0, .int .i64 0, .string ⟨#[]⟩, .slice none 0 0, .slice none 0 0, .slice none 0 0] 27
  out : Blk wr (w.heap.size + 1) #[.int .i64 5, .int .i64 0, .string ⟨#[]⟩, v, .slice none 0 0, .slice none 0 0] 27
  row : wr.ownsRow (w.heap.size + 2) 27 6 v k xs
  each : ∀ j, j < k → KV wr (fun b => w.heap.size + 2 ≤ b ∧ b < wr.heap.size ∧ some b ≠ v.ownBlock) (ofJ (jth l j)) ((xs.drop (j * 6)).take 6)
  old : Old w wr

theorem own_lt {w : World} {base n size : Nat} {e : TypeId} {v : Value} {xs : List Value} (h : w.ownsRow base e size v n xs) {b : Nat} (hb : v.ownBlock = some b) : base ≤ b ∧ b < w.heap.size := by
  rcases h.2 with ⟨rfl, _⟩ | ⟨g, cap, cur, rfl, hg, hh, r⟩
  · simp [Value.ownBlock] at hb
  · have : g = b := by simpa [Value.ownBlock] using hb
    subst this
    exact ⟨hg, (Array.getElem?_eq_some_iff.1 hh).1⟩

theorem Came.put {w wr w2 w3 : World} {l : List J} {k g cap : Nat} {v : Value} {xs news : List Value} {o1 o2 : Obj} (h : Came w wr l k v xs) (ho : Old wr w2) (hv : KV w2 (fun b => wr.heap.size ≤ b) (ofJ (jth l k)) news)
    (hown : w3.ownsRow (w.heap.size + 2) 27 6 (.slice (some ⟨g, 0, none⟩) (k + 1) cap) (k + 1) (xs ++ news)) (hgrow : ((w2.alloc o1).alloc o2).grownBy w3 v.ownBlock) (hat : v.ownBlock = some g ∨ g = w2.heap.size + 2) :
    Came w (w3.setCell ⟨w.heap.size + 1, 3, none⟩ (.slice (some ⟨g, 0, none⟩) (k + 1) cap)) l (k + 1) (.slice (some ⟨g, 0, none⟩) (k + 1) cap) (xs ++ news) := by
  have hwr : w.heap.size + 2 ≤ wr.heap.size := h.out.lt
  have h2 := ho.size
  have hlen : xs.length = k * 6 := h.row.1
  have hn6 := hv.length
  have hgb : w.heap.size + 2 ≤ g := by
    rcases hat with hat | hat
    · exact (own_lt h.row hat).1
    · omega
  have ha : Old w2 ((w2.alloc o1).alloc o2) := ((Old.refl w2).alloc _).alloc _
  have hs3 : w2.heap.size + 2 ≤ w3.heap.size := by have := hgrow.size; simpa using this
  -- one class of blocks is kept from w2 on
  have hc : Chg (fun b => b ≠ w.heap.size + 1 ∧ some b ≠ v.ownBlock) w2 (w3.setCell ⟨w.heap.size + 1, 3, none⟩ (.slice (some ⟨g, 0, none⟩) (k + 1) cap)) :=
    ((Chg.grown (ok := fun b => b ≠ w.heap.size + 1 ∧ some b ≠ v.ownBlock) ha.chg hgrow fun _ _ ho => ho.2).setCell _ _ fun _ ho => ho.1 rfl)
  have hsz : (w3.setCell ⟨w.heap.size + 1, 3, none⟩ (.slice (some ⟨g, 0, none⟩) (k + 1) cap)).heap.size = w3.heap.size := by simp [World.setCell]
  have hvne : ∀ b, v.ownBlock = some b → w.heap.size + 2 ≤ b ∧ b < wr.heap.size := fun b hb => own_lt h.row hb
  refine ⟨?_, ?_, ?_, fun j hj => ?_, ?_⟩
  · refine (h.res.old ho).chg hc ⟨by omega, fun e => ?_⟩
    have := hvne _ e.symm
    omega
  · have hb3 : Blk w3 (w.heap.size + 1) #[.int .i64 5, .int .i64 0, .string ⟨#[]⟩, v, .slice none 0 0, .slice none 0 0] 27 := by
      refine (h.out.old (ho.trans ha)).chg (Chg.grown (ok := fun b => some b ≠ v.ownBlock) (Chg.refl _ _) hgrow fun _ _ ho => ho) fun e => ?_
      have := hvne _ e.symm
      omega
    exact hb3.set 3 _
  · exact own_chg hown ((Chg.refl (fun b => b ≠ w.heap.size + 1) _).setCell _ _ fun _ ho => ho rfl) fun b hb => by
      have : g = b := by simpa [Value.ownBlock] using hb
      omega
  · rw [hsz]
    by_cases hjk : j = k
    · subst hjk
      have e : ((xs ++ news).drop (j * 6)).take 6 = news := by
        rw [← hlen, List.drop_left]
        exact List.take_of_length_le (by omega)
      rw [e]
      refine (hv.bound.chg (Chg.mono hc fun b hb ho => ⟨by omega, fun e => ?_⟩)).mono fun b hb _ => ⟨by omega, by omega, fun e => ?_⟩
      · have := hvne _ e.symm
        omega
      · have hbg : b = g := by simpa [Value.ownBlock] using e
        rcases hat with hat | hat
        · have := hvne _ hat
          omega
        · omega
    · have hjk' : j < k := by omega
      have e : ((xs ++ news).drop (j * 6)).take 6 = (xs.drop (j * 6)).take 6 := by
        rw [List.drop_append_of_le_length (by omega), List.take_append_of_le_length (by rw [List.length_drop]; omega)]
      rw [e]
      refine (((h.each j hjk').old ho).chg (Chg.mono hc fun b hb ho => ⟨by omega, ho.2.2⟩)).mono fun b hb _ => ⟨hb.1, by omega, fun e => ?_⟩
      have hbg : b = g := by simpa [Value.ownBlock] using e
      rcases hat with hat | hat
      · exact hb.2.2 (by rw [hat, hbg])
      · omega
  · exact (((h.old.trans ho).trans ha).grown hgrow fun b hb => by have := hvne b hb; omega).setCell (by simp) _

def FromGos (w : World) (l : List J) (e : Ending) (w' : World) : Prop :=
  ∃ c3, e = .returned (.tuple #[.agg #[.int .i64 5, .int .i64 0, .string ⟨#[]⟩, c3, .slice none 0 0, .slice none 0 0], .bool true]) ∧ KVs w' (fun b => w.heap.size ≤ b) (ofJs l) c3 ∧ Old w w'
theorem Came.done {w wr : World} {l : List J} {v : Value} {xs : List Value} (h : Came w wr l l.length v xs) : KVs wr (fun b => w.heap.size + 2 ≤ b) (ofJs l) v := by
  have hl : (ofJs l).length = l.length := by rw [ofJs_map, List.length_map]
  have hlen : xs.length = l.length * 6 := h.row.1
  refine ⟨fun j => (xs.drop (j * 6)).take 6, ?_, fun i hi => ?_⟩
  · rw [hl]
    refine SliceV.of_own h.row (fun b hb => by have := (own_lt h.row hb).1; omega) fun i hi => ⟨?_, fun j hj => ?_⟩
    · rw [List.length_take, List.length_drop]
      omega
    · rw [List.getElem?_take_of_lt hj, List.getElem?_drop]
  · rw [hl] at hi
    have e : (ofJs l)[i]'(by rw [hl]; exact hi) = ofJ (jth l i) := by simp [ofJs_map, jth, hi]
    rw [e]
    exact (h.each i hi).mono fun b hb _ => by omega
end Go.Proofs.YtehfmaiogbehgaaDoor
