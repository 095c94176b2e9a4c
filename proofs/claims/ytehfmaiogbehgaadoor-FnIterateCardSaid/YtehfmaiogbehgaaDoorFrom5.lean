/-
  A map of the program as the package hands it back: plain part.
  Conditions: the values are right.
-/
import Derived.Test.YtehfmaiogbehgaaDoorIter
namespace Go.Proofs.YtehfmaiogbehgaaDoor
open Go.RowKit

/-- What has been turned so far; N: where memory ended ahead of the loop; vS: the sorted keys. -/
structure ComeM (w wr : World) (N : Nat) (vS : Value) (ks : List ByteArray) (vs : List J) (k : Nat) (v4 v5 : Value) (zs : List Value) : Prop where
  res : Blk wr w.heap.size #[.int .i64 0, .int .i64 0, .string ⟨#[]⟩, .slice none 0 0, .slice none 0 0, .slice none 0 0] 27
  out : Blk wr (w.heap.size + 1) #[.int .i64 6, .int .i64 0, .string ⟨#[]⟩, .slice none 0 0, v4, v5] 27
  base : w.heap.size + 2 ≤ N
  sorted : wr.ownsRow (w.heap.size + 2) 9 1 vS ks.length (ks.map Value.string)
  below : ∀ b, vS.ownBlock = some b → b < N
  keys : wr.ownsRow N 9 1 v4 k ((ks.take k).map Value.string)
  row : wr.ownsRow N 27 6 v5 k zs
  each : ∀ j, j < k → KV wr (fun b => N ≤ b ∧ b < wr.heap.size ∧ some b ≠ v4.ownBlock ∧ some b ≠ v5.ownBlock) (ofJ (jth vs j)) ((zs.drop (j * 6)).take 6)
  old : Old w wr
  size : N ≤ wr.heap.size

theorem own_two {w : World} {base base' n n' size size' : Nat} {e e' : TypeId} {v v' : Value} {xs xs' : List Value} (h : w.ownsRow base e size v n xs) (h' : w.ownsRow base' e' size' v' n' xs') (he : e ≠ e') : ∀ b, v.ownBlock = some b → v'.ownBlock ≠ some b := by
  intro b hb hb'
  obtain ⟨c, hc⟩ := own_blk h b hb
  exact own_ne h' hc he hb'.symm

theorem ComeM.step1 {w wr w2 W1 w3 : World} {N : Nat} {vS : Value} {ks : List ByteArray} {vs : List J} {k : Nat} {v4 v5 : Value} {zs : List Value} (h : ComeM w wr N vS ks vs k v4 v5 zs) (ho : Old wr w2) (hW : Old w2 W1) (hg1 : W1.grownBy w3 v4.ownBlock) :
    w3.ownsRow N 27 6 v5 k zs ∧ Blk w3 (w.heap.size + 1) #[.int .i64 6, .int .i64 0, .string ⟨#[]⟩, .slice none 0 0, v4, v5] 27 := by
  have hc : Chg (fun b => some b ≠ v4.ownBlock) wr w3 := Chg.grown (ok := fun b => some b ≠ v4.ownBlock) (ho.trans hW).chg hg1 fun _ _ ho => ho
  refine ⟨own_chg h.row hc fun b hb e => own_two h.row h.keys (by decide) b hb e.symm, h.out.chg hc fun e => ?_⟩
  have := (own_lt h.keys e.symm).1
  have := h.base
  omega

theorem ComeM.put {w wr w2 W1 w3 W2 w4 : World} {N g4 c4 g5 c5 H1 H2 : Nat} {vS : Value} {ks : List ByteArray} {vs : List J} {k : Nat} {v4 v5 : Value} {zs news : List Value} (h : ComeM w wr N vS ks vs k v4 v5 zs) (hk : k < ks.length) (ho : Old wr w2) (hv : KV w2 (fun b => wr.heap.size ≤ b) (ofJ (jth vs k)) news)
    (hW : Old w2 W1) (hown1 : w3.ownsRow N 9 1 (.slice (some ⟨g4, 0, none⟩) (k + 1) c4) (k + 1) ((ks.take k).map Value.string ++ [.string (kth ks k)])) (hg1 : W1.grownBy w3 v4.ownBlock) (hat1 : v4.ownBlock = some g4 ∨ g4 = H1) (hH1 : w2.heap.size ≤ H1)
    (hW2 : Old w3 W2) (hown2 : w4.ownsRow N 27 6 (.slice (some ⟨g5, 0, none⟩) (k + 1) c5) (k + 1) (zs ++ news)) (hg2 : W2.grownBy w4 v5.ownBlock) (hat2 : v5.ownBlock = some g5 ∨ g5 = H2) (hH2 : w2.heap.size ≤ H2) :
    ComeM w ((w4.setCell ⟨w.heap.size + 1, 4, none⟩ (.slice (some ⟨g4, 0, none⟩) (k + 1) c4)).setCell ⟨w.heap.size + 1, 5, none⟩ (.slice (some ⟨g5, 0, none⟩) (k + 1) c5)) N vS ks vs (k + 1) (.slice (some ⟨g4, 0, none⟩) (k + 1) c4) (.slice (some ⟨g5, 0, none⟩) (k + 1) c5) (zs ++ news) := by
  have hbase := h.base
  have hN := h.size
  have h2 := ho.size
  have hlen : zs.length = k * 6 := h.row.1
  have hn6 := hv.length
  have l4 : ∀ b, v4.ownBlock = some b → N ≤ b ∧ b < wr.heap.size := fun b hb => own_lt h.keys hb
  have l5 : ∀ b, v5.ownBlock = some b → N ≤ b ∧ b < wr.heap.size := fun b hb => own_lt h.row hb
  have hg4 : N ≤ g4 := by
    rcases hat1 with e | e
    · exact (l4 _ e).1
    · omega
  have hg5 : N ≤ g5 := by
    rcases hat2 with e | e
    · exact (l5 _ e).1
    · omega
  have hs1 := hW.size
  have hs2 := hg1.size
  have hs3 := hW2.size
  have hs4 := hg2.size
  have hc3 : Chg (fun b => some b ≠ v4.ownBlock) w2 w3 := Chg.grown (ok := fun b => some b ≠ v4.ownBlock) hW.chg hg1 fun _ _ ho => ho
  have hc4 : Chg (fun b => some b ≠ v5.ownBlock) w3 w4 := Chg.grown (ok := fun b => some b ≠ v5.ownBlock) hW2.chg hg2 fun _ _ ho => ho
  have hst : Chg (fun b => b ≠ w.heap.size + 1) w4 ((w4.setCell ⟨w.heap.size + 1, 4, none⟩ (.slice (some ⟨g4, 0, none⟩) (k + 1) c4)).setCell ⟨w.heap.size + 1, 5, none⟩ (.slice (some ⟨g5, 0, none⟩) (k + 1) c5)) :=
    ((Chg.refl _ w4).setCell _ _ fun _ h => h rfl).setCell _ _ fun _ h => h rfl
  have hc24 : Chg (fun b => some b ≠ v4.ownBlock ∧ some b ≠ v5.ownBlock) w2 w4 := (hc3.mono fun _ _ ho => ho.1).then_ hc4 fun _ _ ho => ho.2
  have hc : Chg (fun b => b ≠ w.heap.size + 1 ∧ some b ≠ v4.ownBlock ∧ some b ≠ v5.ownBlock) w2 _ := (hc24.mono fun _ _ ho => ho.2).then_ hst fun _ _ ho => ho.1
  have hsz : ((w4.setCell ⟨w.heap.size + 1, 4, none⟩ (.slice (some ⟨g4, 0, none⟩) (k + 1) c4)).setCell ⟨w.heap.size + 1, 5, none⟩ (.slice (some ⟨g5, 0, none⟩) (k + 1) c5)).heap.size = w4.heap.size := by simp [World.setCell]
  -- the row of keys is not the row of values
  have h45 : v5.ownBlock ≠ some g4 := by
    intro e
    rcases hat1 with e1 | e1
    · exact own_two h.keys h.row (by decide) g4 e1 e
    · have := l5 _ e
      omega
  have low : ∀ b, b < N → some b ≠ v4.ownBlock ∧ some b ≠ v5.ownBlock := fun b hb => ⟨fun e => by have := l4 b e.symm; omega, fun e => by have := l5 b e.symm; omega⟩
  refine ⟨?_, ?_, h.base, ?_, h.below, ?_, ?_, fun j hj => ?_, ?_, by omega⟩
  · exact (h.res.old ho).chg hc ⟨by omega, low _ (by omega)⟩
  · have hb4 : Blk w4 (w.heap.size + 1) #[.int .i64 6, .int .i64 0, .string ⟨#[]⟩, .slice none 0 0, v4, v5] 27 := (h.out.old ho).chg hc24 (low _ (by omega))
    exact (hb4.set 4 _).set 5 _
  · refine own_chg (own_old h.sorted ho) hc fun b hb => ?_
    have := h.below b hb
    have hb2 := (own_lt h.sorted hb).1
    exact ⟨by omega, low b this⟩
  · rw [take_snoc ks k nilS hk, List.map_append]
    refine own_chg (own_chg hown1 hc4 fun b hb e => ?_) hst fun b hb => ?_
    · have : g4 = b := by simpa [Value.ownBlock] using hb
      subst this
      exact h45 e.symm
    · have : g4 = b := by simpa [Value.ownBlock] using hb
      omega
  · refine own_chg hown2 hst fun b hb => ?_
    have : g5 = b := by simpa [Value.ownBlock] using hb
    omega
  · rw [hsz]
    have new4 : ∀ b, N ≤ b → b < w2.heap.size → some b ≠ v4.ownBlock → some b ≠ (Value.slice (some ⟨g4, 0, none⟩) (k + 1) c4).ownBlock := fun b _ hb hne e => by
      have hbg : b = g4 := by simpa [Value.ownBlock] using e
      rcases hat1 with e1 | e1
      · exact hne (by rw [e1, hbg])
      · omega
    have new5 : ∀ b, N ≤ b → b < w2.heap.size → some b ≠ v5.ownBlock → some b ≠ (Value.slice (some ⟨g5, 0, none⟩) (k + 1) c5).ownBlock := fun b _ hb hne e => by
      have hbg : b = g5 := by simpa [Value.ownBlock] using e
      rcases hat2 with e1 | e1
      · exact hne (by rw [e1, hbg])
      · omega
    by_cases hjk : j = k
    · subst hjk
      have e : ((zs ++ news).drop (j * 6)).take 6 = news := by
        rw [← hlen, List.drop_left]
        exact List.take_of_length_le (by omega)
      rw [e]
      have far : ∀ b, wr.heap.size ≤ b → some b ≠ v4.ownBlock ∧ some b ≠ v5.ownBlock := fun b hb => ⟨fun e => by have := l4 b e.symm; omega, fun e => by have := l5 b e.symm; omega⟩
      exact (hv.bound.chg (Chg.mono hc fun b hb ho => ⟨by omega, far b ho.1⟩)).mono fun b hb _ => ⟨by omega, by omega, new4 b (by omega) hb.2 (far b hb.1).1, new5 b (by omega) hb.2 (far b hb.1).2⟩
    · have hjk' : j < k := by omega
      have e : ((zs ++ news).drop (j * 6)).take 6 = (zs.drop (j * 6)).take 6 := by
        rw [List.drop_append_of_le_length (by omega), List.take_append_of_le_length (by rw [List.length_drop]; omega)]
      rw [e]
      exact (((h.each j hjk').old ho).chg (Chg.mono hc fun b hb ho => ⟨by omega, ho.2.2.1, ho.2.2.2⟩)).mono fun b hb _ => ⟨hb.1, by omega, new4 b hb.1 (by omega) hb.2.2.1, new5 b hb.1 (by omega) hb.2.2.2⟩
  · refine Old.chg_ (h.old.trans ho) hc fun b hb => ⟨by omega, low b (by omega)⟩
end Go.Proofs.YtehfmaiogbehgaaDoor
