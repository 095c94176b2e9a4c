/-
  What the run of calls on a stack says, call by call.
  Conditions: at most 1000 calls.
-/
import Derived.Test.YtaehbephmjolcaaStkOps
import Derived.Test.YtaehbephmjolcaaStkSim
import Derived.Deep.LoopGhost
import Derived.Deep.OwnRows
namespace Go.Proofs.Ytaehbephmjolcaa
open Go.RowKit

/-- Cells of what was said. -/
def saysOf (l : List (Bool × Int)) : List Value := l.flatMap fun p => [.bool p.1, .int .i64 p.2]
def svRow (l : List (Int × Int)) : List Value := l.flatMap fun p => [.int .i64 p.1, .int .i64 p.2]

section
variable {α : Type} (f : α → List Value) (hf : ∀ x, (f x).length = 2)
include hf
theorem flat_length (l : List α) : (l.flatMap f).length = l.length * 2 := by
  induction l with
  | nil => rfl
  | cons d ds ih => simp only [List.flatMap_cons, List.length_append, List.length_cons, hf, ih]; omega
theorem flat_get (l : List α) : ∀ (i : Nat) (h : i < l.length) (j : Nat), j < 2 → (l.flatMap f)[i * 2 + j]? = (f l[i])[j]? := by
  induction l with
  | nil => intro i h; simp at h
  | cons d ds ih =>
    intro i h j hj
    cases i with
    | zero => simp only [List.flatMap_cons, List.getElem_cons_zero]; rw [List.getElem?_append_left (by rw [hf]; omega)]; simp
    | succ i =>
      have := ih i (by simpa using h) j hj
      rw [List.flatMap_cons, List.getElem?_append_right (by rw [hf]; omega), hf]
      rw [show (i + 1) * 2 + j - 2 = i * 2 + j by omega, this]
      simp
theorem flat_set (l : List α) : ∀ (i : Nat) (x : α) (a b : Value), i < l.length → f x = [a, b] → (l.set i x).flatMap f = ((l.flatMap f).set (i * 2) a).set (i * 2 + 1) b := by
  induction l with
  | nil => intro i x a b h; simp at h
  | cons d ds ih =>
    intro i x a b h hx
    have hd := hf d
    obtain ⟨u, v, hd⟩ : ∃ u v, f d = [u, v] := by
      match f d, hd with
      | [u, v], _ => exact ⟨u, v, rfl⟩
    cases i with
    | zero => simp [hx, hd]
    | succ i =>
      have := ih i x a b (by simpa using h) hx
      rw [show (i + 1) * 2 = i * 2 + 1 + 1 by omega]
      simp only [List.set_cons_succ, List.flatMap_cons, this, hd, List.cons_append, List.nil_append]
end

/-- What has been said behind k calls, of n in all. -/
def outs (ops : List (Int × Int)) (n k : Nat) : List (Bool × Int) := (List.range n).map fun j => if j < k then saidAt ops j else (false, 0)
theorem outs_length (ops : List (Int × Int)) (n k : Nat) : (outs ops n k).length = n := by simp [outs]
theorem outs_step (ops : List (Int × Int)) (n k : Nat) (hk : k < n) (x : Bool × Int) (hx : saidAt ops k = x) : outs ops n (k + 1) = (outs ops n k).set k x := by
  subst hx
  apply List.ext_getElem?
  intro j
  by_cases hj : k = j
  · subst hj
    rw [List.getElem?_set_self (by rw [outs_length]; exact hk)]
    simp [outs, hk]
  · rw [List.getElem?_set_ne hj]
    simp only [outs, List.getElem?_map]
    by_cases hjn : j < n
    · simp only [List.getElem?_range hjn, Option.map_some]
      by_cases h : j < k
      · rw [if_pos h, if_pos (by omega)]
      · rw [if_neg h, if_neg (by omega)]
    · simp [hjn]
theorem outs_skip (ops : List (Int × Int)) (n k : Nat) (hx : saidAt ops k = (false, 0)) : outs ops n (k + 1) = outs ops n k := by
  apply List.ext_getElem?
  intro j
  simp only [outs, List.getElem?_map]
  by_cases hjn : j < n
  · simp only [List.getElem?_range hjn, Option.map_some]
    by_cases h : j < k
    · rw [if_pos h, if_pos (by omega)]
    · by_cases hj : j = k
      · subst hj; rw [if_pos (by omega), if_neg (by omega), hx]
      · rw [if_neg h, if_neg (by omega)]
  · simp [hjn]

theorem Try.info42 : (Try.prog.info? 42).map (fun i => (i.zero, i.size, i.bytes)) = some (some (.agg #[.int .i64 0, .int .i64 0]), 2, 16) := by kernel_rfl
theorem Try.info30 : (Try.prog.info? 30).map (fun i => (i.zero, i.size, i.bytes)) = some (some (.agg #[.bool false, .int .i64 0]), 2, 16) := by kernel_rfl

/-- make of n elements of some cells each. -/
theorem run_make_wide {P : Program} (t e : TypeId) (z : Value) (size bytes : Nat) (ht : P.underlying t = some (.slice e)) (hinfo : (P.info? e).map (fun i => (i.zero, i.size, i.bytes)) = some (some z, size, bytes))
    (kl kc : IntKind) (n : Nat) (hbytes : bytes * n ≤ 281474976710656) (h63 : n ≤ 9223372036854775807) (w : World) :
    (Instr.makeSlice t (.int kl (n : Int)) (.int kc (n : Int))).run P w = .ok (.slice (some ⟨w.heap.size, 0, none⟩) n n) (w.alloc (.cells (madeCells z.cells (n * size)) e)) := by
  obtain ⟨i, hi, hz, hs, hb⟩ := info_parts hinfo
  have hb' : (i.bytes : Int) * (n : Int) ≤ 281474976710656 := by
    have h : ((i.bytes * n : Nat) : Int) ≤ 281474976710656 := by rw [hb]; omega
    rwa [Int.natCast_mul] at h
  have hr := run_make (P := P) w t e i z ht hi hz kl kc n n (by omega) (Int.le_refl _) hb' (by omega)
  simp only [Int.toNat_natCast, hs] at hr
  exact hr
theorem made_said (ops : List (Int × Int)) (n : Nat) : madeCells (Value.agg #[.bool false, .int .i64 0]).cells (n * 2) = (saysOf (outs ops n 0)).toArray := by
  apply Array.ext_getElem?
  intro j
  by_cases hj : j < n * 2
  · have h1 : (saysOf (outs ops n 0))[j]? = ([Value.bool false, .int .i64 0] : List Value)[j % 2]? := by
      have := flat_get (fun p : Bool × Int => [Value.bool p.1, .int .i64 p.2]) (fun _ => rfl) (outs ops n 0) (j / 2) (by rw [outs_length]; omega) (j % 2) (by omega)
      rw [show j / 2 * 2 + j % 2 = j by omega] at this
      unfold saysOf
      rw [this]
      have hx : (outs ops n 0)[j / 2]'(by rw [outs_length]; omega) = (false, 0) := by simp [outs]
      rw [hx]
    simp only [List.getElem?_toArray, h1]
    rcases (show j % 2 = 0 ∨ j % 2 = 1 by omega) with h | h <;> simp [madeCells, Value.cells, hj, h]
  · have h1 : (saysOf (outs ops n 0)).length = n * 2 := by
      unfold saysOf
      rw [flat_length _ (fun _ => rfl), outs_length]
    rw [Array.getElem?_eq_none (by simp [madeCells]; omega), Array.getElem?_eq_none (by simp [h1]; omega)]

/-- The calls as they lie in memory. -/
def Calls_ (w : World) (A : Option Addr) (ops : List (Int × Int)) : Prop :=
  ∀ j, j < ops.length → ∃ b o, A = some ⟨b, o, none⟩ ∧ w.cell? ⟨b, o + j * 2, none⟩ = some (.int .i64 (ops.getD j (0, 0)).1) ∧ w.cell? ⟨b, o + j * 2 + 1, none⟩ = some (.int .i64 (ops.getD j (0, 0)).2)

/-- The machine is m; what k calls said lies in the block O. -/
structure Run (w wr : World) (g O : Nat) (ops : List (Int × Int)) (m : Mac) (k : Nat) (v s4 : Value) : Prop where
  stk : Stk wr w.heap.size g v m.ds m.i m.l
  sav : wr.ownsRow w.heap.size 42 2 s4 m.sv.length (svRow m.sv)
  out : Blk wr O (saysOf (outs ops ops.length k)).toArray 30
  base : w.heap.size ≤ O
  old : Chg (fun b => b < w.heap.size) w wr

section
variable {w wr wr' : World} {g O k : Nat} {ops : List (Int × Int)} {m m' : Mac} {v v' s4 s4' : Value}
theorem Run.stk_ (h : Run w wr g O ops m k v s4) (hc : Chg (fun b => b ≠ g ∧ some b ≠ v.ownBlock) wr wr') (hs : Stk wr' w.heap.size g v' m'.ds m'.i m'.l) (he : m'.sv = m.sv) : Run w wr' g O ops m' k v' s4 := by
  have ho : some O ≠ v.ownBlock := own_ne h.stk.row h.out (by decide)
  have hg : O ≠ g := h.out.ne h.stk.head (by decide)
  refine ⟨hs, ?_, h.out.chg hc ⟨hg, ho⟩, h.base, h.old.trans (hc.mono fun b _ hb => ⟨fun e => ?_, fun e => ?_⟩)⟩
  · rw [he]
    refine own_chg h.sav hc (fun b hb => ⟨?_, ?_⟩)
    · obtain ⟨cs, hcs⟩ := own_blk h.sav b hb
      exact hcs.ne h.stk.head (by decide)
    · obtain ⟨cs, hcs⟩ := own_blk h.sav b hb
      exact own_ne h.stk.row hcs (by decide)
  · have := h.stk.at_; omega
  · have := (h.stk.row.lt b e.symm).1; omega
theorem Run.one (h : Run w wr g O ops m k v s4) (hc : Chg (fun b => b ≠ g) wr wr') (hs : Stk wr' w.heap.size g v m'.ds m'.i m'.l) (he : m'.sv = m.sv) : Run w wr' g O ops m' k v s4 := h.stk_ (hc.mono fun _ _ hb => hb.1) hs he
theorem Run.chg (h : Run w wr g O ops m k v s4) (hc : Chg (fun _ => True) wr wr') : Run w wr' g O ops m k v s4 := h.stk_ (hc.mono fun _ _ _ => trivial) (h.stk.chg hc trivial fun _ _ => trivial) rfl
theorem Run.sav_ (h : Run w wr g O ops m k v s4) (hg : wr.grownBy wr' s4.ownBlock) (ho : wr'.ownsRow w.heap.size 42 2 s4' m'.sv.length (svRow m'.sv)) (e1 : m'.ds = m.ds) (e2 : m'.i = m.i) (e3 : m'.l = m.l) : Run w wr' g O ops m' k v s4' := by
  have hc : Chg (fun b => some b ≠ s4.ownBlock) wr wr' := (Chg.refl _ _).grown hg fun _ _ hb => hb
  have h1 : some O ≠ s4.ownBlock := own_ne h.sav h.out (by decide)
  have h2 : some g ≠ s4.ownBlock := own_ne h.sav h.stk.head (by decide)
  refine ⟨?_, ho, h.out.chg hc h1, h.base, h.old.trans (hc.mono fun b _ hb e => ?_)⟩
  · rw [e1, e2, e3]
    refine h.stk.chg hc h2 fun b hb => ?_
    obtain ⟨cs, hcs⟩ := own_blk h.stk.row b hb
    exact own_ne h.sav hcs (by decide)
  · have := (h.sav.lt b e.symm).1; omega
theorem Run.skip (h : Run w wr g O ops m k v s4) (hx : saidAt ops k = (false, 0)) : Run w wr g O ops m (k + 1) v s4 := ⟨h.stk, h.sav, by rw [outs_skip _ _ _ hx]; exact h.out, h.base, h.old⟩
theorem Run.said (h : Run w wr g O ops m k v s4) (hk : k < ops.length) (b : Bool) (y : Int) (hx : saidAt ops k = (b, y)) :
    Run w ((wr.setCell ⟨O, k * 2, none⟩ (.bool b)).setCell ⟨O, k * 2 + 1, none⟩ (.int .i64 y)) g O ops m (k + 1) v s4 := by
  have hc : Chg (fun b => b ≠ O) wr ((wr.setCell ⟨O, k * 2, none⟩ (.bool b)).setCell ⟨O, k * 2 + 1, none⟩ (.int .i64 y)) := ((Chg.refl _ _).setCell _ _ (fun _ h => h rfl)).setCell _ _ (fun _ h => h rfl)
  refine ⟨h.stk.chg hc (h.stk.head.ne h.out (by decide)) fun b hb => ?_, own_chg h.sav hc fun b hb => ?_, ?_, h.base, h.old.trans (hc.mono fun b _ hb e => by have := h.base; omega)⟩
  · obtain ⟨cs, hcs⟩ := own_blk h.stk.row b hb
    exact hcs.ne h.out (by decide)
  · obtain ⟨cs, hcs⟩ := own_blk h.sav b hb
    exact hcs.ne h.out (by decide)
  · have h2 := (h.out.set (k * 2) (.bool b)).set (k * 2 + 1) (.int .i64 y)
    have e : saysOf (outs ops ops.length (k + 1)) = ((saysOf (outs ops ops.length k)).set (k * 2) (.bool b)).set (k * 2 + 1) (.int .i64 y) := by
      unfold saysOf
      rw [outs_step ops _ k hk _ hx]
      exact flat_set (fun p : Bool × Int => [Value.bool p.1, .int .i64 p.2]) (fun _ => rfl) _ k _ _ _ (by rw [outs_length]; exact hk) rfl
    rw [e]
    simpa using h2
/-- The cells that are to be written. -/
theorem Run.cells (h : Run w wr g O ops m k v s4) (hk : k < ops.length) : (∃ y0 y1, wr.cell? ⟨O, k * 2, none⟩ = some y0 ∧ wr.cell? ⟨O, k * 2 + 1, none⟩ = some y1) ∧ wr.frozen? ⟨O, k * 2, none⟩ = false ∧ wr.frozen? ⟨O, k * 2 + 1, none⟩ = false := by
  have hl : (saysOf (outs ops ops.length k)).length = ops.length * 2 := by
    unfold saysOf
    rw [flat_length _ (fun _ => rfl), outs_length]
  refine ⟨⟨(saysOf (outs ops ops.length k))[k * 2]'(by omega), (saysOf (outs ops ops.length k))[k * 2 + 1]'(by omega), ?_, ?_⟩, h.out.frozen _, h.out.frozen _⟩
  · rw [h.out.cell]; simp
  · rw [h.out.cell]; simp
end

end Go.Proofs.Ytaehbephmjolcaa
