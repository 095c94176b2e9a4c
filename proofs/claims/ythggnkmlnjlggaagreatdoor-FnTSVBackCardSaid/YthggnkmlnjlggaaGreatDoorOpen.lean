/-
  A value as it comes in, opened: every value that can come in is one of the thin package's, and lies in memory as the walks want it.
  Conditions: none.
-/
import Derived.Test.YthggnkmlnjlggaaGreatDoorFit3
import Derived.OpenShut
import Derived.ShutString
import Derived.Deep.SlicePairs
import Derived.SizedLaws
namespace Go.Proofs.YthggnkmlnjlggaaGreatDoor
open Go.RowKit Go.ChangeShapes Go.WideShapes Go.ChangeAt Go.Deep

instance : Inhabited V := ⟨V.null⟩
section
variable {H : Type} {enc : TypeId × Value → H} {W : World}

theorem cell_block {a : Addr} {v : Value} (h : W.cell? a = some v) : a.spot = none ∧ ∃ cs t fz, W.heap[a.block]? = some (.cells cs t fz) ∧ cs[a.off]? = some v := by
  unfold World.cell? at h
  split at h
  · rename_i c t f hb
    split at h
    · cases h
    · rename_i hs
      exact ⟨by simpa using hs, c, t, f, hb, h⟩
  · cases h
theorem add_plain (b o n : Nat) : (⟨b, o, none⟩ : Addr).add n = ⟨b, o + n, none⟩ := by
  unfold Addr.add
  split <;> simp_all

theorem mem_all {P : Program} {e : TypeId} {n : Nat} : ∀ {l : List (DataW H)} {d : DataW H}, d ∈ l → n ∈ d.weights P e → n ∈ DataW.weightsAll P e l
  | x :: r, d, h, hn => by
    rw [DataW.weightsAll]
    rcases List.mem_cons.1 h with rfl | h
    · exact List.mem_append.2 (.inl hn)
    · exact List.mem_append.2 (.inr (mem_all h hn))
/-- No more than the reach. -/
def Reached (t : TypeId) (d : DataW H) : Prop := ∀ n ∈ d.weights Tryz.prog t, n ≤ reachBytes
theorem reached_string {t : TypeId} {s : ByteArray} (h : Reached t (DataW.lit (H := H) (.string s.data.toList))) : s.size ≤ 140737488355328 := by
  have h1 := h s.data.toList.length (by simp [DataW.weights])
  have h2 : s.data.toList.length = s.size := by simp
  rw [h2] at h1
  unfold reachBytes at h1
  omega
/-- A slice that came in: its elements' cells, each read a level deeper. -/
theorem open_slice_v {t e : TypeId} {sz fuel : Nat} {cs : List Value} {x : DataW H × List MemPlace} (ht : Tryz.prog.underlying t = some (.slice e)) (hc : Tryz.prog.cellsOf e = sz) (hsz : 0 < sz)
    (h : DataW.trod enc Tryz.prog W 0 (fun _ => true) true fuel t cs = some x) (hw : Reached t x.1) :
    ∃ (v : Value) (len n : Nat) (C : Nat → List Value), cs = [v] ∧ fuel ≤ n + 1 ∧ n < fuel ∧ len ≤ 9223372036854775807 ∧ SliceV W (fun _ => True) v sz len C ∧ ∀ i, i < len → ∃ y, DataW.trod enc Tryz.prog W 0 (fun _ => true) true n e (C i) = some y ∧ Reached e y.1 := by
  have hf : ∃ m, fuel = m + 1 := by
    cases fuel with
    | zero => simp [DataW.trod] at h
    | succ m => exact ⟨m, rfl⟩
  obtain ⟨m, rfl⟩ := hf
  rcases DataW.trod_slice ht h with ⟨rfl, _⟩ | ⟨a, len, cap, elems, rest, n, hn, rfl, hxe, _, hl, hm, hlen, hel, _⟩
  · exact ⟨_, 0, m, fun _ => [], rfl, by omega, by omega, by omega, SliceV.nil _ _ _ _, fun i hi => absurd hi (by omega)⟩
  · subst hc
    have hw2 : ∀ y ∈ elems, Reached e y.1 := fun y hy k hk => hw k (by
      rw [hxe]
      show k ∈ DataW.weights _ _ (DataW.slice _ _)
      simp only [DataW.weights, ht]
      exact List.mem_cons_of_mem _ (List.mem_append.2 (.inl (mem_all (List.mem_map_of_mem hy) hk))))
    obtain ⟨C, hC⟩ := choose_lt (α := List Value) (n := len) (p := fun i cs' => W.cells? 0 (a.add (i * Tryz.prog.cellsOf e)) (Tryz.prog.cellsOf e) = some cs' ∧ ∃ y, DataW.trod enc Tryz.prog W 0 (fun _ => true) true n e cs' = some y ∧ Reached e y.1) (fun i hi => by
      have h1 := hel i hi
      rw [List.getElem?_eq_getElem (by omega)] at h1
      obtain ⟨cs', h2, h3⟩ := Option.bind_eq_some_iff.1 h1
      exact ⟨cs', h2, _, h3, hw2 _ (List.getElem_mem _)⟩)
    have hcell : ∀ i, i < len → (C i).length = Tryz.prog.cellsOf e ∧ ∀ j, j < Tryz.prog.cellsOf e → W.cell? ((a.add (i * Tryz.prog.cellsOf e)).add j) = (C i)[j]? := fun i hi => by
      obtain ⟨_, h2, h3⟩ := World.cells?_some (hC i hi).1
      exact ⟨h2, h3⟩
    refine ⟨_, len, n, C, rfl, by omega, by omega, by unfold maxLen at hm; omega, ⟨some a, cap, rfl, hl, (fun h => by cases h), fun h0 => ?_⟩, fun i hi => (hC i hi).2⟩
    have h00 := (hcell 0 h0).2 0 hsz
    rw [Nat.zero_mul, show (a.add 0).add 0 = a from rfl] at h00
    have hlen0 := (hcell 0 h0).1
    rw [List.getElem?_eq_getElem (by omega)] at h00
    obtain ⟨hs, cs, t', fz, hb, _⟩ := cell_block h00
    obtain ⟨b, o, sp⟩ := a
    simp only at hs hb
    subst hs
    refine ⟨b, o, cs, t', fz, rfl, trivial, hb, fun i hi => ⟨(hcell i hi).1, fun j hj => ?_⟩⟩
    rw [← (hcell i hi).2 j hj, add_plain, add_plain]
    simp [World.cell?, hb]

theorem kvs_of {n : Nat} {C : Nat → List Value} {F : Nat → V} {ok : Nat → Prop} (h : ∀ i, i < n → Sized (F i) ∧ KV W ok (F i) (C i)) :
    (∀ x ∈ (List.range n).map F, Sized x) ∧ ∀ i (hi : i < ((List.range n).map F).length), KV W ok ((List.range n).map F)[i] (C i) := by
  refine ⟨fun x hx => ?_, fun i hi => ?_⟩
  · obtain ⟨i, hi, rfl⟩ := List.mem_map.1 hx
    exact (h i (List.mem_range.1 hi)).1
  · have hi' : i < n := by simpa using hi
    simpa using (h i hi').2

set_option maxRecDepth 100000 in
theorem open_value : ∀ (fuel : Nat) (cs : List Value) (x : DataW H × List MemPlace), DataW.trod enc Tryz.prog W 0 (fun _ => true) true fuel 26 cs = some x → Reached 26 x.1 → ∃ v, Sized v ∧ KV W (fun _ => True) v cs := by
  intro fuel
  induction fuel using Nat.strongRecOn with
  | ind fuel ih =>
    intro cs x h hwt
    obtain ⟨xs, m, rfl, rfl, hl, hlen, hf⟩ := DataW.trod_struct Tryz.underlying26 h
    have c6 : Tryz.prog.cellsOf 26 = 6 := by kernel_rfl
    have c1 : Tryz.prog.cellsOf 9 = 1 := by kernel_rfl
    have ci : Tryz.prog.cellsOf 3 = 1 := by kernel_rfl
    have ct : Tryz.prog.cellsOf 22 = 1 := by kernel_rfl
    have cl : Tryz.prog.cellsOf 23 = 1 := by kernel_rfl
    have ck : Tryz.prog.cellsOf 24 = 1 := by kernel_rfl
    rw [c6] at hl
    match cs, hl with
    | [d0, d1, d2, d3, d4, d5], _ =>
      have hx : ∀ i, i < 6 → ∃ y, xs[i]? = some y := fun i hi => ⟨_, List.getElem?_eq_getElem (by rw [hlen]; exact hi)⟩
      obtain ⟨y0, h0⟩ := hx 0 (by omega)
      obtain ⟨y1, h1⟩ := hx 1 (by omega)
      obtain ⟨y2, h2⟩ := hx 2 (by omega)
      obtain ⟨y3, h3⟩ := hx 3 (by omega)
      obtain ⟨y4, h4⟩ := hx 4 (by omega)
      obtain ⟨y5, h5⟩ := hx 5 (by omega)
      have g0 : DataW.trod enc Tryz.prog W 0 (fun _ => true) true m 22 (([d0, d1, d2, d3, d4, d5].drop 0).take (Tryz.prog.cellsOf 22)) = xs[0]? := hf 0 _ rfl
      have g1 : DataW.trod enc Tryz.prog W 0 (fun _ => true) true m 3 (([d0, d1, d2, d3, d4, d5].drop 1).take (Tryz.prog.cellsOf 3)) = xs[1]? := hf 1 _ rfl
      have g2 : DataW.trod enc Tryz.prog W 0 (fun _ => true) true m 9 (([d0, d1, d2, d3, d4, d5].drop 2).take (Tryz.prog.cellsOf 9)) = xs[2]? := hf 2 _ rfl
      have g3 : DataW.trod enc Tryz.prog W 0 (fun _ => true) true m 23 (([d0, d1, d2, d3, d4, d5].drop 3).take (Tryz.prog.cellsOf 23)) = xs[3]? := hf 3 _ rfl
      have g4 : DataW.trod enc Tryz.prog W 0 (fun _ => true) true m 24 (([d0, d1, d2, d3, d4, d5].drop 4).take (Tryz.prog.cellsOf 24)) = xs[4]? := hf 4 _ rfl
      have g5 : DataW.trod enc Tryz.prog W 0 (fun _ => true) true m 23 (([d0, d1, d2, d3, d4, d5].drop 5).take (Tryz.prog.cellsOf 23)) = xs[5]? := hf 5 _ rfl
      have hwf : ∀ (i : Nat) (t : TypeId) (y : DataW H × List MemPlace), [22, 3, 9, 23, 24, 23][i]? = some t → xs[i]? = some y → Reached t y.1 := fun i t y ht hy n hn => hwt n (by
        show n ∈ DataW.weights _ _ (DataW.agg _)
        simp only [DataW.weights, Tryz.underlying26]
        exact DataW.weights_mem_each (j := i) (t := t) (d := y.1) (by simpa using ht) (by rw [List.getElem?_map, hy]; rfl) n hn)
      have w2 := hwf 2 _ _ rfl h2
      have w3 := hwf 3 _ _ rfl h3
      have w4 := hwf 4 _ _ rfl h4
      have w5 := hwf 5 _ _ rfl h5
      simp only [ct, ci, c1, cl, ck, List.drop_succ_cons, List.drop_zero, List.take_succ_cons, List.take_zero] at g0 g1 g2 g3 g4 g5
      rw [h0] at g0
      rw [h1] at g1
      rw [h2] at g2
      rw [h3] at g3
      rw [h4] at g4
      rw [h5] at g5
      obtain ⟨k, e0, _⟩ := DataW.trod_int Tryz.underlying22 g0
      obtain ⟨hh, e1, _⟩ := DataW.trod_int Tryz.underlying3 g1
      obtain ⟨tx, e2, ex2, ht⟩ := DataW.trod_string Tryz.underlying9 g2
      rw [ex2] at w2
      have htx := reached_string w2
      obtain ⟨v1, n1, m1, C1, e3, _, l1, b1, s1, r1⟩ := open_slice_v Tryz.underlying23 c6 (by omega) g3 w3
      obtain ⟨v2, n2, m2, C2, e4, _, l2, b2, s2, r2⟩ := open_slice_v Tryz.underlying24 c1 (by omega) g4 w4
      obtain ⟨v3, n3, m3, C3, e5, _, l3, b3, s3, r3⟩ := open_slice_v Tryz.underlying23 c6 (by omega) g5 w5
      simp only [List.cons.injEq, and_true] at e0 e1 e2 e3 e4 e5
      subst e0 e1 e2 e3 e4 e5
      obtain ⟨F1, hF1⟩ := choose_lt (α := V) (n := n1) (p := fun i v => Sized v ∧ KV W (fun _ => True) v (C1 i)) (fun i hi => by
        obtain ⟨y, hy, hyw⟩ := r1 i hi
        exact ih m1 (by omega) _ _ hy hyw)
      obtain ⟨F3, hF3⟩ := choose_lt (α := V) (n := n3) (p := fun i v => Sized v ∧ KV W (fun _ => True) v (C3 i)) (fun i hi => by
        obtain ⟨y, hy, hyw⟩ := r3 i hi
        exact ih m3 (by omega) _ _ hy hyw)
      obtain ⟨F2, hF2⟩ := choose_lt (α := ByteArray) (n := n2) (p := fun i s => C2 i = [.string s] ∧ s.size ≤ 140737488355328) (fun i hi => by
        obtain ⟨y, hy, hyw⟩ := r2 i hi
        obtain ⟨s, hs, hy1, hz⟩ := DataW.trod_string Tryz.underlying9 hy
        rw [hy1] at hyw
        exact ⟨s, hs, reached_string hyw⟩)
      obtain ⟨z1, k1⟩ := kvs_of hF1
      obtain ⟨z3, k3⟩ := kvs_of hF3
      refine ⟨.mk k hh tx ((List.range n1).map F1) ((List.range n2).map F2) ((List.range n3).map F3), .mk _ _ _ _ _ _ htx (by simpa using b1) (by simpa using b2) (by simpa using b3) (fun s hs => ?_) z1 z3,
        .mk _ _ _ _ _ _ _ _ _ C1 C3 (by simpa using s1) k1 ?_ (by simpa using s3) k3⟩
      · obtain ⟨i, hi, rfl⟩ := List.mem_map.1 hs
        exact (hF2 i (List.mem_range.1 hi)).2
      · have := s2.congr (C' := fun i => [.string (((List.range n2).map F2).getD i nilS)]) fun i hi => by
          rw [(hF2 i hi).1]
          simp [hi]
        simpa using this
end
end Go.Proofs.YthggnkmlnjlggaaGreatDoor
