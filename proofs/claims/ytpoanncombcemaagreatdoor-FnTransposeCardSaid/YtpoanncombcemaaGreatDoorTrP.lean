/-
  Columns of rows: plain words for the walk of the program's transpose.
  Conditions: none.
-/
import Derived.Test.YtpoanncombcemaaGreatDoorZBase
namespace Go.Proofs.YtpoanncombcemaaGreatDoor
open Go.RowKit

def rowOf : J → List J
  | .arr l => l
  | _ => []
/-- The longest of the first i rows. -/
def most (L : List J) : Nat → Nat
  | 0 => 0
  | i + 1 => max (most L i) (rowOf (jth L i)).length
theorem jth_none {l : List J} {i : Nat} (h : l.length ≤ i) : jth l i = .nil := by simp [jth, List.getD_eq_getElem?_getD, List.getElem?_eq_none h]
theorem most_le (L : List J) (b : Nat) (h : ∀ r ∈ L, (rowOf r).length ≤ b) : ∀ i, most L i ≤ b
  | 0 => Nat.zero_le _
  | i + 1 => by
    have := most_le L b h i
    have h2 : (rowOf (jth L i)).length ≤ b := by
      by_cases hi : i < L.length
      · rw [← jth_eq L i hi]
        exact h _ (List.getElem_mem hi)
      · rw [jth_none (by omega)]; simp [rowOf]
    simp only [most]
    omega
theorem most_ge (L : List J) : ∀ i j, j < i → (rowOf (jth L j)).length ≤ most L i
  | 0, j, h => absurd h (by omega)
  | i + 1, j, h => by
    simp only [most]
    by_cases he : j = i
    · subst he
      omega
    · have := most_ge L i j (by omega)
      omega
def transJ (L : List J) : J := .arr ((List.range (most L L.length)).map fun c => .arr (L.map fun r => jth (rowOf r) c))

/-- What is asked whether it is an array. -/
theorem arr_or {w : World} {ok : Nat → Prop} {j : J} {x : Value} (h : KJ w ok j x) : (∃ (l : List J) (v : Value) (X : Nat → Value), j = .arr l ∧ x = .iface 75 v ∧ SliceV w ok v 1 l.length (fun i => [X i]) ∧ ∀ i (hi : i < l.length), KJ w ok l[i] (X i)) ∨
    (∀ l, j ≠ .arr l) ∧ (∀ W : World, (Instr.typeAssert x 20 75 true).run Tryz.prog W = .ok (.tuple #[.slice none 0 0, .bool false]) W) := by
  cases h with
  | nil => exact .inr ⟨fun _ => by simp, fun W => by kernel_rfl⟩
  | bool b => exact .inr ⟨fun _ => by simp, fun W => by kernel_rfl⟩
  | int n => exact .inr ⟨fun _ => by simp, fun W => by kernel_rfl⟩
  | flt h => exact .inr ⟨fun _ => by simp, fun W => by kernel_rfl⟩
  | str s => exact .inr ⟨fun _ => by simp, fun W => by kernel_rfl⟩
  | arr l v X s r => exact .inl ⟨l, v, X, rfl, rfl, s, r⟩
  | obj ks vs b xs hb hm hx r => exact .inr ⟨fun _ => by simp, fun W => by kernel_rfl⟩
theorem must_arr (v : Value) (w : World) : (Instr.typeAssert (.iface 75 v) 20 75 false).run Tryz.prog w = .ok v w := by kernel_rfl
theorem Tryz.infoRow : (Tryz.prog.info? 75).map (fun i => (i.zero, i.size, i.bytes)) = some (some (.slice none 0 0), 1, 24) := by kernel_rfl

/-- The columns, as far as they are made. -/
structure Made (w wr : World) (k l i : Nat) : Prop where
  wss : ∃ cs, Blk wr w.heap.size cs 75 ∧ cs.size = l ∧ ∀ c, c < i → cs[c]? = some (.slice (some ⟨w.heap.size + 2 + c, 0, none⟩) k k)
  xs : ∃ cs, Blk wr (w.heap.size + 1) cs 20 ∧ cs.size = l ∧ ∀ c, c < i → cs[c]? = some (.iface 75 (.slice (some ⟨w.heap.size + 2 + c, 0, none⟩) k k))
  cols : ∀ c, c < i → Blk wr (w.heap.size + 2 + c) (madeCells #[.nilIface] k) 20
  size : wr.heap.size = w.heap.size + 2 + i
  old : Old w wr
theorem Made.start (w : World) (k l : Nat) : Made w ((w.alloc (.cells (madeCells #[.slice none 0 0] l) 75)).alloc (.cells (madeCells #[.nilIface] l) 20)) k l 0 := by
  have h := Blk.new (w.alloc (.cells (madeCells #[.slice none 0 0] l) 75)) (madeCells #[.nilIface] l) 20
  rw [show (w.alloc (.cells (madeCells #[.slice none 0 0] l) 75)).heap.size = w.heap.size + 1 by simp] at h
  exact ⟨⟨_, (Blk.new w _ _).alloc _, by simp [madeCells], fun c hc => absurd hc (by omega)⟩, ⟨_, h, by simp [madeCells], fun c hc => absurd hc (by omega)⟩, fun c hc => absurd hc (by omega), by simp, ((Old.refl w).alloc _).alloc _⟩
/-- One column more. -/
theorem Made.put {w wr : World} {k l i : Nat} (h : Made w wr k l i) (hi : i < l) : Made w (((wr.alloc (.cells (madeCells #[.nilIface] k) 20)).setCell ⟨w.heap.size, i, none⟩ (.slice (some ⟨w.heap.size + 2 + i, 0, none⟩) k k)).setCell ⟨w.heap.size + 1, i, none⟩ (.iface 75 (.slice (some ⟨w.heap.size + 2 + i, 0, none⟩) k k))) k l (i + 1) := by
  obtain ⟨⟨ca, ba, sa, ra⟩, ⟨cb, bb, sb, rb⟩, hc, hs, ho⟩ := h
  have hn := Blk.new wr (madeCells #[.nilIface] k) 20
  rw [hs] at hn
  refine ⟨⟨_, ((ba.alloc _).set i _).far (by simp) _, by simpa using sa, fun c hc => ?_⟩, ⟨_, ((bb.alloc _).far (by simp) _).set i _, by simpa using sb, fun c hc => ?_⟩, fun c hc' => ?_, by simp; omega, ((ho.alloc _).setCell (Nat.le_refl _) _).setCell (by simp) _⟩
  · by_cases he : c = i
    · subst he
      rw [Array.getElem?_setIfInBounds_self_of_lt (by omega)]
    · rw [Array.getElem?_setIfInBounds_ne (Ne.symm he)]
      exact ra c (by omega)
  · by_cases he : c = i
    · subst he
      rw [Array.getElem?_setIfInBounds_self_of_lt (by omega)]
    · rw [Array.getElem?_setIfInBounds_ne (Ne.symm he)]
      exact rb c (by omega)
  · by_cases he : c = i
    · subst he
      exact (hn.far (by simp; omega) _).far (by simp; omega) _
    · exact (((hc c (by omega)).alloc _).far (by simp; omega) _).far (by simp; omega) _

/-- The columns, as far as they are filled. -/
structure Fill (w wr : World) (k l : Nat) (f : Nat → Nat → Value) : Prop where
  wss : ∃ cs, Blk wr w.heap.size cs 75 ∧ ∀ c, c < l → cs[c]? = some (.slice (some ⟨w.heap.size + 2 + c, 0, none⟩) k k)
  xs : ∃ cs, Blk wr (w.heap.size + 1) cs 20 ∧ ∀ c, c < l → cs[c]? = some (.iface 75 (.slice (some ⟨w.heap.size + 2 + c, 0, none⟩) k k))
  cols : ∀ c, c < l → ∃ cs, Blk wr (w.heap.size + 2 + c) cs 20 ∧ cs.size = k ∧ ∀ r, r < k → cs[r]? = some (f c r)
  old : Old w wr
theorem Made.fill {w wr : World} {k l : Nat} (h : Made w wr k l l) : Fill w wr k l fun _ _ => .nilIface := by
  obtain ⟨⟨ca, ba, sa, ra⟩, ⟨cb, bb, sb, rb⟩, hc, hs, ho⟩ := h
  refine ⟨⟨_, ba, ra⟩, ⟨_, bb, rb⟩, fun c hl => ⟨_, hc c hl, by simp [madeCells], fun r hr => ?_⟩, ho⟩
  simp [madeCells, hr, Nat.mod_one]
def put2 (f : Nat → Nat → Value) (c r : Nat) (v : Value) : Nat → Nat → Value := fun c' r' => if c' = c ∧ r' = r then v else f c' r'
theorem Fill.put {w wr : World} {k l : Nat} {f : Nat → Nat → Value} (h : Fill w wr k l f) {c r : Nat} (hc : c < l) (hr : r < k) (v : Value) : Fill w (wr.setCell ⟨w.heap.size + 2 + c, r, none⟩ v) k l (put2 f c r v) := by
  obtain ⟨⟨ca, ba, ra⟩, ⟨cb, bb, rb⟩, hf, ho⟩ := h
  refine ⟨⟨_, ba.far (by simp; omega) _, ra⟩, ⟨_, bb.far (by simp; omega) _, rb⟩, fun c' hc' => ?_, ho.setCell (by simp; omega) _⟩
  obtain ⟨cs, hb, hs, hx⟩ := hf c' hc'
  by_cases he : c' = c
  · subst he
    refine ⟨_, hb.set r v, by simpa using hs, fun r' hr' => ?_⟩
    by_cases hq : r' = r
    · subst hq
      rw [Array.getElem?_setIfInBounds_self_of_lt (by omega)]
      simp [put2]
    · rw [Array.getElem?_setIfInBounds_ne (Ne.symm hq), hx r' hr']
      simp [put2, hq]
  · refine ⟨cs, hb.far (by simp; omega) _, hs, fun r' hr' => ?_⟩
    rw [hx r' hr']
    simp [put2, he]
/-- What place (column c, row r) is to hold once row i is filled up to column j. -/
def due (L : List J) (i j c r : Nat) : J := if r < i ∨ r = i ∧ c < j then jth (rowOf (jth L r)) c else .nil
/-- What the columns hold. -/
def Holds (w wr : World) (ok : Nat → Prop) (L : List J) (k l i j : Nat) : Prop := ∃ f, Fill w wr k l f ∧ ∀ c, c < l → ∀ r, r < k → KJ wr (fun b => ok b ∧ b < w.heap.size) (due L i j c r) (f c r)
theorem Holds.start {w wr : World} {ok : Nat → Prop} {L : List J} {k l : Nat} (h : Made w wr k l l) : Holds w wr ok L k l 0 0 :=
  ⟨_, h.fill, fun c _ r _ => by rw [due, if_neg (by omega)]; exact .nil⟩
theorem Holds.put {w wr : World} {ok : Nat → Prop} {L : List J} {k l i j : Nat} {x : Value} (h : Holds w wr ok L k l i j) (hi : i < k) (hj : j < l) (hx : KJ w ok (jth (rowOf (jth L i)) j) x) : Holds w (wr.setCell ⟨w.heap.size + 2 + j, i, none⟩ x) ok L k l i (j + 1) := by
  obtain ⟨f, hf, hk⟩ := h
  have hc : Chg (fun b => ok b ∧ b < w.heap.size) wr (wr.setCell ⟨w.heap.size + 2 + j, i, none⟩ x) := (Chg.refl _ _).setCell _ _ fun _ (h : ok (w.heap.size + 2 + j) ∧ w.heap.size + 2 + j < w.heap.size) => absurd h.2 (by omega)
  refine ⟨_, hf.put hj hi x, fun c hcl r hr => ?_⟩
  by_cases he : c = j ∧ r = i
  · obtain ⟨rfl, rfl⟩ := he
    rw [due, if_pos (by omega)]
    simp only [put2, and_self, if_true]
    exact (hx.bound.old hf.old).chg hc
  · have e : due L i (j + 1) c r = due L i j c r := by
      unfold due
      congr 1
      simp only [eq_iff_iff]
      omega
    rw [e]
    simp only [put2, he, if_false]
    exact (hk c hcl r hr).chg hc
theorem Holds.next {w wr : World} {ok : Nat → Prop} {L : List J} {k l i : Nat} (h : Holds w wr ok L k l i (rowOf (jth L i)).length) : Holds w wr ok L k l (i + 1) 0 := by
  obtain ⟨f, hf, hk⟩ := h
  refine ⟨f, hf, fun c hc r hr => ?_⟩
  have := hk c hc r hr
  by_cases he : r = i
  · subst he
    rw [due, if_pos (by omega)]
    by_cases hl : c < (rowOf (jth L r)).length
    · rw [due, if_pos (by omega)] at this
      exact this
    · rw [due, if_neg (by omega)] at this
      have e : jth (rowOf (jth L r)) c = .nil := jth_none (by omega)
      rw [e]
      exact this
  · have e : due L (i + 1) 0 c r = due L i (rowOf (jth L i)).length c r := by
      unfold due
      congr 1
      simp only [eq_iff_iff]
      omega
    rw [e]
    exact this
theorem Holds.done {w wr : World} {ok : Nat → Prop} {L : List J} (h : Holds w wr ok L L.length (most L L.length) L.length 0) :
    KJ wr (fun _ => True) (transJ L) (.iface 75 (.slice (some ⟨w.heap.size + 1, 0, none⟩) (most L L.length) (most L L.length))) := by
  obtain ⟨f, ⟨_, ⟨cb, bb, rb⟩, hf, ho⟩, hk⟩ := h
  unfold transJ
  generalize most L L.length = l at *
  refine .arr _ _ (fun c => .iface 75 (.slice (some ⟨w.heap.size + 2 + c, 0, none⟩) L.length L.length)) ?_ fun c hc => ?_
  · rw [List.length_map, List.length_range]
    refine ⟨_, _, rfl, Nat.le_refl _, (fun h => by (cases h)), fun _ => ⟨w.heap.size + 1, 0, cb, _, _, rfl, trivial, bb, fun c hc => ⟨rfl, fun j hj => ?_⟩⟩⟩
    obtain rfl : j = 0 := by omega
    have := rb c hc
    simp [this]
  · rw [List.length_map, List.length_range] at hc
    simp only [List.getElem_map, List.getElem_range]
    obtain ⟨cs, hb, hs, hx⟩ := hf c hc
    refine .arr _ _ (f c) ?_ fun r hr => ?_
    · rw [List.length_map]
      refine ⟨_, _, rfl, Nat.le_refl _, (fun h => by (cases h)), fun _ => ⟨w.heap.size + 2 + c, 0, cs, _, _, rfl, trivial, hb, fun r hr => ⟨rfl, fun j hj => ?_⟩⟩⟩
      obtain rfl : j = 0 := by omega
      have := hx r hr
      simp [this]
    · rw [List.length_map] at hr
      have := hk c hc r hr
      rw [due, if_pos (by omega)] at this
      rw [List.getElem_map, jth_eq L r hr]
      exact this.mono fun _ _ _ => trivial
end Go.Proofs.YtpoanncombcemaaGreatDoor
