/-
  An iterator over given values, made and asked so many times: the walk.
  Conditions: the values are right.
-/
import Derived.Test.YtehfmaiogbehgaaDoorOuts
namespace Go.Proofs.YtehfmaiogbehgaaDoor
open Go.RowKit

/-- An iterator that has just been made. -/
def NewAns (W : World) (okX : Nat → Prop) (n : Nat) (X : Nat → Value) (e : Ending) (w' : World) : Prop := ∃ itv g, e = .returned itv ∧ ItS w' okX g itv n 0 X ∧ Old W w' ∧ W.heap.size ≤ g ∧ (0 < n → g < w'.heap.size)
set_option maxRecDepth 100000 in
theorem new_iter (W : World) (okX : Nat → Prop) (A : Option Addr) (n c : Nat) (hn : n ≤ 1048576) (X : Nat → Value) (hX : ∀ i, i < n → X i = .nilIface ∨ ∃ t v, X i = .iface t v) (h : SliceV W okX (.slice A n c) 1 n fun i => [X i]) : Calls Tryd.prog 10 #[.slice A n c] W (NewAns W okX n X) := by
  by_cases h0 : n = 0
  · subst h0
    clear hX h
    go_enter Tryd.func10, Tryd.ntmps10
    go_wp2
    go_ret
    exact ⟨_, W.heap.size, rfl, .inl ⟨rfl, rfl⟩, Old.refl _, Nat.le_refl _, fun h => absurd h (by decide)⟩
  · by_cases h1 : n = 1
    · subst h1
      obtain ⟨b, o, rfl, hb, k0⟩ := one_at (k0 := 0) (h.congr (C' := fun i => [X (0 + i)]) fun i _ => by rw [Nat.zero_add]) 0 (by decide)
      have hx := hX 0 (by decide)
      rw [Nat.add_zero, Nat.add_zero] at k0
      obtain ⟨x, hxx⟩ : ∃ x, x = X 0 := ⟨_, rfl⟩
      rw [← hxx] at hx k0
      have HXX := Lib.hid hxx
      clear hX h hxx
      rcases hx with rfl | ⟨t, v, rfl⟩
      all_goals
        go_enter Tryd.func10, Tryd.ntmps10
        go_wp2
        go_ret
        refine ⟨_, W.heap.size, rfl, .inr (.inl ⟨rfl, rfl, ?_⟩), (Old.refl _).alloc _, Nat.le_refl _, fun _ => by simp⟩
        rw [← HXX.out]
        exact Blk.new W _ _
    · have hn2 : 2 ≤ n := by omega
      have H := Lib.hid h
      clear hX h h0 h1
      go_enter Tryd.func10, Tryd.ntmps10
      go_wp2
      go_ret
      refine ⟨_, W.heap.size, rfl, .inr (.inr ⟨rfl, _, Blk.new W _ _, ?_⟩), (Old.refl _).alloc _, Nat.le_refl _, fun _ => by simp⟩
      rw [Nat.sub_zero]
      exact (H.out.congr fun i _ => by rw [Nat.zero_add]).old ((Old.refl _).alloc _)

theorem eight_stores (w : World) (g : Nat) (u0 u1 u2 u3 u4 u5 u6 u7 : Value) : Chg (fun b => b ≠ g) w ((((((((w.setCell ⟨g, 0, none⟩ u0).setCell ⟨g, 1, none⟩ u1).setCell ⟨g, 2, none⟩ u2).setCell ⟨g, 3, none⟩ u3).setCell ⟨g, 4, none⟩ u4).setCell ⟨g, 5, none⟩ u5).setCell ⟨g, 6, none⟩ u6).setCell ⟨g, 7, none⟩ u7) :=
  ((six_stores w g u0 u1 u2 u3 u4 u5).setCell _ _ fun _ h => h rfl).setCell _ _ fun _ h => h rfl
def IterAns (w : World) (l : List V) (M n : Nat) (e : Ending) (w' : World) : Prop :=
  ∃ A c u, e = .returned (.agg (zero8 (.slice A n c) u)) ∧ KVs w' (fun _ => True) (l.take n) (.slice A n c) ∧ (l.length < M → u = 0) ∧ Old w w'
set_option maxHeartbeats 4000000 in
set_option maxRecDepth 100000 in
theorem iterate_any {l : List V} (hgl : ∀ x ∈ l, Good x) (hl : l.length ≤ 200) (M : Nat) (hM : M ≤ 400) (n : Nat) (hn : n = min l.length M) (w : World) (ok : Nat → Prop) (v : Value) (h : KVs w ok l v) :
    Calls Tryd.prog 5 #[v, .int .i64 (M : Nat)] w (IterAns w l M n) := by
  have H := Lib.hid h
  have HG := Lib.hid hgl
  have HN := Lib.hid hn
  obtain ⟨C, s, _⟩ := h
  obtain ⟨A, c, rfl, _⟩ := s.len
  have hb0 := Blk.new w (zero8 (.slice none 0 0) 0) 29
  have HB := Lib.hid hb0
  have HO := Lib.hid ((Old.refl w).alloc (.cells (zero8 (.slice none 0 0) 0) 29))
  have HKV := Lib.hid (show KVs (w.alloc (.cells (zero8 (.slice none 0 0) 0) 29)) ok l (.slice A l.length c) by
    obtain ⟨C, s, r⟩ := H.out
    exact ⟨C, s.old HO.out, fun i hi => (r i hi).old HO.out⟩)
  clear s hgl hb0 hn
  go_enter Tryd.func5, Tryd.ntmps5
  go_wp2_with (first
    | (go_at_call 8; go_must (refine (listToGo_any l (by omega) (fun x hx => toGo_any (HG.out x hx)) _ ok _ HKV.out).mono ?_; rintro e w2 ⟨y, rfl, hy, ho⟩; have HO2 := Lib.hid ho; have hsz := ho.size; obtain ⟨X, sx, rx⟩ := hy; have hle : (toJs l).length = l.length := (by rw [toJs_map, List.length_map]); rw [hle] at sx; have hrx : ∀ i, i < l.length → KJ w2 (fun k => (w.alloc (.cells (zero8 (.slice none 0 0) 0) 29)).heap.size ≤ k) (toJ (nth l i)) (X i) := (fun i hi => by have := rx i (by omega); rw [jth_eq, jth_map l i hi] at this; exact this); have SX := Lib.hid (SliceV.mono (ok' := fun k => w.heap.size < k ∧ k < w2.heap.size) sx (fun b hb hb2 => ⟨by simp at hb; omega, hb2⟩)); have RX := Lib.hid (fun i hi => KJ.mono (ok' := fun k => w.heap.size < k ∧ k < w2.heap.size) (hrx i hi) (fun b hb hb2 => ⟨by simp at hb; omega, hb2⟩)); obtain ⟨Ay, cy, rfl, _⟩ := sx.len; clear ho sx rx hrx hle))
    | (go_at_call 10; go_must (refine (new_iter _ _ Ay l.length cy (by omega) X (fun i hi => jshape (RX.out i hi)) SX.out).mono ?_; rintro e w3 ⟨itv, g, rfl, hit, ho, hg1, hg2⟩; have HO3 := Lib.hid ho; have HIT := Lib.hid hit; have hs3 := ho.size; have HG1 := Lib.hid hg1; have HG2 := Lib.hid hg2; clear hit ho hg2))
    | (go_at_call 9; go_must (refine (outputs_any HG.out hl M hM _ (fun k => w.heap.size < k ∧ k < w2.heap.size) g HG2.out (fun b hb => ⟨by omega, by omega⟩) itv X (fun i hi => (RX.out i hi).old HO3.out) HIT.out).mono ?_; rintro e w4 ⟨A4, c4, u, rfl, hk, hu, hc⟩; rw [← HN.out] at hk ⊢; have HK := Lib.hid hk; have HU := Lib.hid hu; have HC := Lib.hid hc; have bx := ((HB.out.old HO2.out).old HO3.out).chg hc (by have := HB.out.lt; simp at hsz; omega); have r0 : w4.cell? ⟨w.heap.size, 0, none⟩ = some (.slice none 0 0) := bx.cell 0; have f0 := bx.frozen 0; have r1 : w4.cell? ⟨w.heap.size, 1, none⟩ = some (.int .i64 0) := bx.cell 1; have f1 := bx.frozen 1; have r2 : w4.cell? ⟨w.heap.size, 2, none⟩ = some (.int .i64 0) := bx.cell 2; have f2 := bx.frozen 2; have r3 : w4.cell? ⟨w.heap.size, 3, none⟩ = some (.int .i64 0) := bx.cell 3; have f3 := bx.frozen 3; have r4 : w4.cell? ⟨w.heap.size, 4, none⟩ = some (.string ⟨#[]⟩) := bx.cell 4; have f4 := bx.frozen 4; have r5 : w4.cell? ⟨w.heap.size, 5, none⟩ = some (.slice none 0 0) := bx.cell 5; have f5 := bx.frozen 5; have r6 : w4.cell? ⟨w.heap.size, 6, none⟩ = some (.slice none 0 0) := bx.cell 6; have f6 := bx.frozen 6; have r7 : w4.cell? ⟨w.heap.size, 7, none⟩ = some (.slice none 0 0) := bx.cell 7; have f7 := bx.frozen 7; have hbl := bx.lt; simp only [zero8]; clear hk hu hc bx)))
  refine bodyPost_ret (v := .agg #[.slice A4 n c4, .int .i64 u, .int .i64 0, .int .i64 0, .string ⟨#[]⟩, .slice none 0 0, .slice none 0 0, .slice none 0 0]) (by simp [results, Tryd.results5, go_sem, r0, r1, r2, r3, r4, r5, r6, r7]) rfl ?_
  have hs1 : w.heap.size + 1 ≤ w2.heap.size := by simpa using hsz
  have hc8 := eight_stores w4 w.heap.size (.slice A4 n c4) (.int .i64 u) (.int .i64 0) (.int .i64 0) (.string ⟨#[]⟩) (.slice none 0 0) (.slice none 0 0) (.slice none 0 0)
  obtain ⟨C4, s4, k4⟩ := HK.out
  refine ⟨A4, c4, u, rfl, ⟨C4, (s4.chg (Chg.mono hc8 fun b _ hb => ?_)).mono fun _ _ _ => trivial, fun i hi => ((k4 i hi).chg (Chg.mono hc8 fun b _ hb => ?_)).mono fun _ _ _ => trivial⟩, HU.out, ?_⟩
  · omega
  · omega
  · exact Old.chg_ (Old.chg_ (HO.out.trans (HO2.out.trans HO3.out)) HC.out fun b hb => by omega) hc8 fun b hb => Nat.ne_of_lt hb
end Go.Proofs.YtehfmaiogbehgaaDoor
