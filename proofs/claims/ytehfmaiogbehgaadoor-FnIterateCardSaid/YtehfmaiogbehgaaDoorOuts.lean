/-
  The first outputs of an iterator over given values: the walk.
  Conditions: the values are right.
-/
import Derived.Test.YtehfmaiogbehgaaDoorNexts
namespace Go.Proofs.YtehfmaiogbehgaaDoor
open Go.RowKit

/-- Where an iterator over n values stands behind k steps. -/
def ItS (wr : World) (okX : Nat → Prop) (g : Nat) (itv : Value) (n k : Nat) (X : Nat → Value) : Prop :=
  (n = 0 ∧ itv = .iface 56 (.agg #[])) ∨
  (n = 1 ∧ itv = .iface 57 (.pointer (some ⟨g, 0, none⟩)) ∧ Blk wr g #[X 0, .bool (decide (1 ≤ k))] 59) ∨
  (itv = .iface 61 (.pointer (some ⟨g, 0, none⟩)) ∧ ∃ S, Blk wr g #[S] 60 ∧ SliceV wr okX S 1 (n - k) (fun i => [X (k + i)]))
theorem ItS.chg {wr w2 : World} {okX ok : Nat → Prop} {g : Nat} {itv : Value} {n k : Nat} {X : Nat → Value} (h : ItS wr okX g itv n k X) (hc : Chg ok wr w2) (hg : ok g) (hx : ∀ b, okX b → ok b) : ItS w2 okX g itv n k X := by
  rcases h with ⟨h1, h2⟩ | ⟨h1, h2, h3⟩ | ⟨h1, S, h2, h3⟩
  · exact .inl ⟨h1, h2⟩
  · exact .inr (.inl ⟨h1, h2, h3.chg hc hg⟩)
  · exact .inr (.inr ⟨h1, S, h2.chg hc hg, h3.chg (Chg.mono hc fun b _ ho => hx b ho)⟩)

theorem one_at {w : World} {ok : Nat → Prop} {A : Option Addr} {m c n : Nat} {X : Nat → Value} {k0 : Nat} (h : SliceV w ok (.slice A m c) 1 n fun i => [X (k0 + i)]) (k : Nat) (hk : k < n) : ∃ b o, A = some ⟨b, o, none⟩ ∧ b < w.heap.size ∧ w.cell? ⟨b, o + k, none⟩ = some (X (k0 + k)) := by
  obtain ⟨b, o, he, hb, _, hc⟩ := h.at_ k hk
  have := hc 0 (by omega)
  simp at this
  exact ⟨b, o, he, hb, this⟩
/-- The iterator over a slice, one step on. -/
theorem it_next {wr : World} {okX : Nat → Prop} {g b o n k m c : Nat} {X : Nat → Value} (hb : Blk wr g #[.slice (some ⟨b, o, none⟩) (m + 1) c] 60) (hs : SliceV wr okX (.slice (some ⟨b, o, none⟩) (m + 1) c) 1 (m + 1) fun i => [X (k + i)]) (hm : n - k = m + 1) (hx : ∀ b, okX b → b ≠ g) :
    ItS (wr.setCell ⟨g, 0, none⟩ (.slice (some ⟨b, if c = 1 then o else o + 1, none⟩) m (c - 1))) okX g (.iface 61 (.pointer (some ⟨g, 0, none⟩))) n (k + 1) X := by
  obtain ⟨A, c', he, h1, h2, h3⟩ := hs
  cases he
  obtain ⟨b', o', cs, t, fz, he, ho, hh, hr⟩ := h3 (by omega)
  cases he
  refine .inr (.inr ⟨rfl, _, hb.set 0 _, _, _, by rw [show n - (k + 1) = m by omega], by omega, (fun h => by (cases h)), fun hn => ?_⟩)
  have hc1 : c ≠ 1 := by omega
  refine ⟨b, o + 1, cs, t, fz, by rw [if_neg hc1], ho, ?_, fun i hi => ⟨rfl, fun j hj => ?_⟩⟩
  · have hbg := hx b ho
    rw [Below.heap_setCell _ _ _ _ (by simpa using hbg)]
    exact hh
  · obtain rfl : j = 0 := by omega
    have := (hr (i + 1) (by omega)).2 0 (by omega)
    rw [show o + 1 + i * 1 + 0 = o + (i + 1) * 1 + 0 by omega, this]
    show [X (k + (i + 1))][0]? = [X (k + 1 + i)][0]?
    rw [show k + (i + 1) = k + 1 + i by omega]

def zero8 (v : Value) (e : Int) : Array Value := #[v, .int .i64 e, .int .i64 0, .int .i64 0, .string ⟨#[]⟩, .slice none 0 0, .slice none 0 0, .slice none 0 0]
/-- What has come out so far. -/
structure Outs (w wr : World) (okX : Nat → Prop) (g : Nat) (itv : Value) (l : List V) (X : Nat → Value) (k : Nat) (v : Value) (xs : List Value) : Prop where
  it : ItS wr okX g itv l.length k X
  res : Blk wr w.heap.size (zero8 (.slice none 0 0) 0) 29
  out : Blk wr (w.heap.size + 1) (zero8 v 0) 29
  row : RowV wr (w.heap.size + 2) (fun b => w.heap.size + 2 ≤ b) l k v xs
  chg : Chg (fun b => b ≠ g) w wr
theorem Outs.start {w : World} {okX : Nat → Prop} {g : Nat} {itv : Value} {l : List V} {X : Nat → Value} (h : ItS w okX g itv l.length 0 X) : Outs w ((w.alloc (.cells (zero8 (.slice none 0 0) 0) 29)).alloc (.cells (zero8 (.slice none 0 0) 0) 29)) okX g itv l X 0 (.slice none 0 0) [] := by
  have ho := ((Old.refl w).alloc (.cells (zero8 (.slice none 0 0) 0) 29)).alloc (.cells (zero8 (.slice none 0 0) 0) 29)
  refine ⟨h.chg ho trivial fun _ _ => trivial, (Blk.new w _ _).alloc _, ?_, RowV.nil _ _ _ _, ho.chg⟩
  have hb := Blk.new (w.alloc (.cells (zero8 (.slice none 0 0) 0) 29)) (zero8 (.slice none 0 0) 0) 29
  rw [show (w.alloc (.cells (zero8 (.slice none 0 0) 0) 29)).heap.size = w.heap.size + 1 by simp] at hb
  exact hb
/-- Behind a step of the iterator. -/
theorem Outs.step {w wr w2 : World} {okX : Nat → Prop} {g : Nat} {itv : Value} {l : List V} {X : Nat → Value} {k : Nat} {v : Value} {xs : List Value} (h : Outs w wr okX g itv l X k v xs) (hc : Chg (fun b => b ≠ g) wr w2) (hg : g < w.heap.size) :
    Blk w2 w.heap.size (zero8 (.slice none 0 0) 0) 29 ∧ Blk w2 (w.heap.size + 1) (zero8 v 0) 29 ∧ RowV w2 (w.heap.size + 2) (fun b => w.heap.size + 2 ≤ b) l k v xs ∧ Chg (fun b => b ≠ g) w w2 := by
  refine ⟨h.res.chg hc (by omega), h.out.chg hc (by omega), ⟨own_chg h.row.row hc fun b hb => ?_, fun j hj => ?_⟩, h.chg.trans hc⟩
  · have := (own_lt h.row.row hb).1
    omega
  · exact ((h.row.each j hj).chg (Chg.mono hc fun b _ hb => by have := hb.1; omega)).mono fun b hb _ => ⟨hb.1, by have := hc.size; omega, hb.2.2⟩
/-- One value more. -/
theorem Outs.put {w w2 w3 w3' w4 : World} {okX : Nat → Prop} {g gn cap : Nat} {itv : Value} {l : List V} {X : Nat → Value} {k : Nat} {v : Value} {xs news : List Value}
    (hit : ItS w2 okX g itv l.length (k + 1) X) (hres : Blk w2 w.heap.size (zero8 (.slice none 0 0) 0) 29) (hout : Blk w2 (w.heap.size + 1) (zero8 v 0) 29) (hrow : RowV w2 (w.heap.size + 2) (fun b => w.heap.size + 2 ≤ b) l k v xs) (hchg : Chg (fun b => b ≠ g) w w2)
    (hg : g < w.heap.size) (hx : ∀ b, okX b → b < w.heap.size) (ho : Old w2 w3) (hv : KV w3 (fun b => w2.heap.size ≤ b) (nth l k) news) (ho' : Old w3 w3')
    (hown : w4.ownsRow (w.heap.size + 2) 27 6 (.slice (some ⟨gn, 0, none⟩) (k + 1) cap) (k + 1) (xs ++ news)) (hgrow : w3'.grownBy w4 v.ownBlock) (hat : v.ownBlock = some gn ∨ gn = w3'.heap.size) :
    Outs w (w4.setCell ⟨w.heap.size + 1, 0, none⟩ (.slice (some ⟨gn, 0, none⟩) (k + 1) cap)) okX g itv l X (k + 1) (.slice (some ⟨gn, 0, none⟩) (k + 1) cap) (xs ++ news) := by
  have hsz := hout.lt
  have hs3 := ho.size
  have hs4 := ho'.size
  have hs5 := hgrow.size
  have hc : Chg (fun b => some b ≠ v.ownBlock) w2 w4 := Chg.grown (ok := fun b => some b ≠ v.ownBlock) (ho.trans ho').chg hgrow fun _ _ ho => ho
  have hown0 : ∀ b, v.ownBlock = some b → w.heap.size + 2 ≤ b ∧ b < w2.heap.size := fun b hb => own_lt hrow.row hb
  have hgb : w.heap.size + 2 ≤ gn := by
    rcases hat with hat | hat
    · exact (hown0 _ hat).1
    · omega
  have hcs : Chg (fun b => b ≠ w.heap.size + 1 ∧ some b ≠ v.ownBlock) w2 (w4.setCell ⟨w.heap.size + 1, 0, none⟩ (.slice (some ⟨gn, 0, none⟩) (k + 1) cap)) := (Chg.mono hc fun _ _ h => h.2).setCell _ _ fun _ ho => ho.1 rfl
  have hlow : ∀ b, b < w.heap.size + 1 → b ≠ w.heap.size + 1 ∧ some b ≠ v.ownBlock := fun b hb => ⟨by omega, fun e => by have := hown0 b e.symm; omega⟩
  have hp := (hrow.old ho).put (hv.mono (ok' := fun b => w.heap.size + 2 ≤ b ∧ some b ≠ v.ownBlock) fun b hb _ => ⟨by omega, fun e => by have := hown0 b e.symm; omega⟩) ho' hown hgrow hat
  refine ⟨hit.chg hcs (hlow g (by omega)) fun b hb => hlow b (by have := hx b hb; omega), hres.chg hcs (hlow _ (by omega)), ?_, ⟨own_chg hown ((Chg.refl (fun b => b ≠ w.heap.size + 1) _).setCell _ _ fun _ ho => ho rfl) fun b hb => ?_, fun j hj => ?_⟩, hchg.then_ hcs fun b hb ho => hlow b (by omega)⟩
  · have hb3 : Blk w4 (w.heap.size + 1) (zero8 v 0) 29 := hout.chg hc fun e => by have := hown0 _ e.symm; omega
    exact hb3.set 0 _
  · have : gn = b := by simpa [Value.ownBlock] using hb
    omega
  · refine ((hp.each j hj).chg ((Chg.refl (fun b => w.heap.size + 2 ≤ b ∧ b < w4.heap.size ∧ some b ≠ (Value.slice (some ⟨gn, 0, none⟩) (k + 1) cap).ownBlock) _).setCell _ _ fun _ ho => ?_)).mono fun b hb _ => ?_
    · have := ho.1
      simp at this
    · exact ⟨hb.1, by simpa [World.setCell] using hb.2.1, hb.2.2⟩
theorem RowV.take {wr : World} {N : Nat} {K : Nat → Prop} {l : List V} {k : Nat} {v : Value} {xs : List Value} (h : RowV wr N K l k v xs) : RowV wr N K (l.take k) k v xs :=
  ⟨h.row, fun j hj => by
    have e : nth (l.take k) j = nth l j := by simp [nth, List.getD_eq_getElem?_getD, List.getElem?_take_of_lt hj]
    rw [e]
    exact h.each j hj⟩

theorem meth_empty (n : Nat) (v : Value) (w : World) : (method (n + 1) 56 v "Next").run Tryd.prog w = .ok (77, v) w := by kernel_rfl
theorem meth_unit (n g : Nat) (w : World) : (method (n + 1) 57 (.pointer (some ⟨g, 0, none⟩)) "Next").run Tryd.prog w = .ok (78, .pointer (some ⟨g, 0, none⟩)) w := by kernel_rfl
theorem meth_slice (n g : Nat) (w : World) : (method (n + 1) 61 (.pointer (some ⟨g, 0, none⟩)) "Next").run Tryd.prog w = .ok (79, .pointer (some ⟨g, 0, none⟩)) w := by kernel_rfl
/-- What comes out. -/
def OutAns (w : World) (g : Nat) (l : List V) (M : Nat) (e : Ending) (w' : World) : Prop :=
  ∃ A c u, e = .returned (.agg (zero8 (.slice A (min l.length M) c) u)) ∧ KVs w' (fun b => w.heap.size + 2 ≤ b) (l.take (min l.length M)) (.slice A (min l.length M) c) ∧ (l.length < M → u = 0) ∧ Chg (fun b => b ≠ g) w w'
/-- The end: the list as it stands, the last word written, all of it stored as the result. -/
theorem Outs.fin {w wr wz : World} {okX : Nat → Prop} {g : Nat} {itv : Value} {l : List V} {X : Nat → Value} {k M : Nat} {A : Option Addr} {c : Nat} {xs : List Value} {u : Int} (h : Outs w wr okX g itv l X k (.slice A k c) xs) (hc : Chg (fun b => b ≠ w.heap.size ∧ b ≠ w.heap.size + 1) wr wz) (hk : k = min l.length M) (hu : l.length < M → u = 0) :
    OutAns w g l M (.returned (.agg (zero8 (.slice A k c) u))) wz := by
  have hkl : k ≤ l.length := by omega
  have hd := h.row.take.done (l := l.take k) (by simp; omega)
  obtain ⟨C, s, r⟩ := hd
  have hm : ∀ b : Nat, (w.heap.size + 2 ≤ b ∨ w.heap.size + 2 ≤ b) → b ≠ w.heap.size ∧ b ≠ w.heap.size + 1 := fun b hb => by omega
  subst hk
  exact ⟨A, c, u, rfl, ⟨C, (s.chg (Chg.mono hc fun b _ hb => hm b hb)).mono fun b hb _ => by omega, fun i hi => ((r i hi).chg (Chg.mono hc fun b _ hb => hm b hb)).mono fun b hb _ => by omega⟩, hu, h.chg.then_ hc fun b hb _ => by omega⟩
set_option maxHeartbeats 4000000 in
set_option maxRecDepth 100000 in
theorem outputs_any {l : List V} (hgl : ∀ x ∈ l, Good x) (hl : l.length ≤ 200) (M : Nat) (hM : M ≤ 400) (w : World) (okX : Nat → Prop) (g : Nat) (hg0 : 0 < l.length → g < w.heap.size) (hx : ∀ b, okX b → b < w.heap.size ∧ b ≠ g) (itv : Value) (X : Nat → Value)
    (hX : ∀ i, i < l.length → KJ w okX (toJ (nth l i)) (X i)) (h : ItS w okX g itv l.length 0 X) : Calls Tryd.prog 9 #[itv, .int .i64 (M : Nat)] w (OutAns w g l M) := by
  obtain ⟨iv, hi, hz0, hz1, hz2⟩ := info_parts Tryd.infoVal
  have HI := Lib.hid hi
  have HZ0 := Lib.hid hz0
  have HZ1 := Lib.hid hz1
  have HZ2 := Lib.hid hz2
  have m1 := meth_empty
  have m2 := meth_unit
  have m3 := meth_slice
  have HX := Lib.hid hX
  have HOK := Lib.hid hx
  have HGL := Lib.hid hgl
  have HS := Lib.hid (Outs.start h)
  clear hi hz0 hz1 hz2 hX hx h hgl
  go_enter Tryd.func9, Tryd.ntmps9
  go_wp2
  go_loopg [12] M (fun gk s12 wr => ∃ k v xs, k + gk = M ∧ k ≤ l.length ∧ s12 = s12 ∧ Outs w wr okX g itv l X k v xs)
  case atStart => exact ⟨0, _, _, by simp, Nat.zero_le _, rfl, HS.out⟩
  case round =>
    obtain ⟨k, v, xs, hk, hkl, _, R⟩ := hrel
    obtain ⟨A, c, rfl⟩ := own_len R.row.row
    have R0 := Lib.hid R
    have y0 : wr.cell? ⟨w.heap.size + 1, 0, none⟩ = some (.slice A k c) := R.out.cell 0
    have hlo := R.out.lt
    by_cases hkM : k < M
    · by_cases hkn : k < l.length
      · have hg := hg0 (by omega)
        have hxk := HX.out k hkn
        have HG1 := Lib.hid (HGL.out (nth l k) (by rw [← nth_eq l k hkn]; exact List.getElem_mem hkn))
        have hit := R.it
        rcases hit with ⟨h0, rfl⟩ | ⟨h1, rfl, hb⟩ | ⟨rfl, S, hb, hs⟩
        · omega
        · obtain rfl : k = 0 := by omega
          have hb' : Blk wr g #[X 0, .bool false] 59 := hb
          have HB := Lib.hid hb'
          have H1 := Lib.hid h1
          clear hb hb' R h1
          obtain ⟨x, hxx⟩ : ∃ x, x = X 0 := ⟨_, rfl⟩
          rw [← hxx] at hxk HB
          have HXX := Lib.hid hxx
          clear hxx
          have HX2 := Lib.hid hxk
          have hxs := Lib.hid (jshape hxk)
          rcases jshape hxk with rfl | ⟨xt, xv, rfl⟩
          all_goals
            clear hxk
            go_wp2_with (first
              | (go_at_call 78; go_must (refine (next_unit _ g _ hxs.out HB.out).mono ?_; rintro e w2 ⟨rfl, hw2⟩; have hst := R0.out.step (w2 := w2) (by rw [hw2]; exact (Chg.refl _ _).setCell _ _ fun _ h => h rfl) hg; have HIT := Lib.hid (show ItS w2 okX g _ l.length (0 + 1) X by rw [hw2]; exact .inr (.inl ⟨H1.out, rfl, by have := HB.out.set 1 (.bool true); rw [HXX.out] at this; exact this⟩)); have HRES := Lib.hid hst.1; have HOUT := Lib.hid hst.2.1; have HROW := Lib.hid hst.2.2.1; have HCHG := Lib.hid hst.2.2.2; have HXK := Lib.hid (HX2.out.chg (hst.2.2.2.mono fun b _ hb => (HOK.out b hb).2)); have y0 : w2.cell? ⟨w.heap.size + 1, 0, none⟩ = some (.slice A 0 c) := hst.2.1.cell 0; have hlo := hst.2.1.lt; have hty := fun W => err_none HX2.out W; clear hst hw2))
              | (go_at_call 15; go_must (refine (fromGo_any mapFromGo_any (toJ_good HG1.out) _ okX _ HXK.out).mono ?_; rintro e w3 ⟨d0, d1, d2, d3, d4, d5, rfl, hv, ho⟩; rw [ofJ_toJ HG1.out] at hv; have HO3 := Lib.hid ho; have hsz3 := ho.size; have hob := HOUT.out.old ho; have z0 : w3.cell? ⟨w.heap.size + 1, 0, none⟩ = some (.slice A 0 c) := hob.cell 0; have hs1 : w.heap.size + 1 < w3.heap.size := hob.lt; obtain ⟨B1, q1, p1, B2, q2, p2, B3, q3, p3, rfl, rfl, rfl, rfl, rfl, rfl⟩ := shape hv; obtain ⟨kd, hkd⟩ : ∃ x, x = (nth l 0).kind := ⟨_, rfl⟩; obtain ⟨hf, hhf⟩ : ∃ x, x = (nth l 0).half := ⟨_, rfl⟩; obtain ⟨tx, htx⟩ : ∃ x, x = (nth l 0).text := ⟨_, rfl⟩; rw [← hkd, ← hhf, ← htx] at hv ⊢; have HV := Lib.hid hv; clear hv hkd hhf htx ho hob))
              | (at_builtin; go_must (refine wpList_append_lies _ rfl _ _ _ rfl (w.heap.size + 2) 27 iv _ 6 104 Tryd.underlying22 HI.out HZ0.out HZ1.out HZ2.out rfl (by decide) (.slice A 0 c) 0 xs rfl (own_old HROW.out.row (HO3.out.trans (((Old.refl _).alloc _).alloc _))) ⟨w3.heap.size + 1, 0, none⟩ 1 1 [.int .i64 kd, .int .i64 hf, .string tx, .slice B1 q1 p1, .slice B2 q2 p2, .slice B3 q3 p3] rfl rfl (news_six (by simp) _ _) (one_six HV.out) (by decide) (by unfold maxLen; omega) (by omega) (by simp; omega) (w3.heap.size + 2) (by simp) ?_; intro gn cap w4 hown hgrow hat hlt4; have HP := Lib.hid (Outs.put HIT.out HRES.out HOUT.out HROW.out HCHG.out hg (fun b hb => (HOK.out b hb).1) HO3.out HV.out (((Old.refl _).alloc _).alloc _) hown hgrow (by simpa using hat)); have hm : Blk w4 (w.heap.size + 1) (zero8 (.slice A 0 c) 0) 29 := (HOUT.out.old (HO3.out.trans (((Old.refl _).alloc _).alloc _))).chg (Chg.grown (ok := fun b => some b ≠ (Value.slice A 0 c).ownBlock) (Chg.refl _ _) hgrow fun _ _ ho => ho) (fun e => by have := own_lt HROW.out.row e.symm; omega); have z0 : w4.cell? ⟨w.heap.size + 1, 0, none⟩ = some (.slice A 0 c) := hm.cell 0; have zf0 := hm.frozen 0; have zl := hm.lt; clear hown hgrow hat hm)))
            go_roundg (gk - 1)
            case measure => omega
            case rel => exact ⟨0 + 1, _, _, by omega, by omega, by first | rfl | trivial, HP.out⟩
        · obtain ⟨A5, c5, rfl, hc5⟩ := hs.len
          obtain ⟨b5, o5, rfl, hb5, k5⟩ := one_at hs 0 (by omega)
          obtain ⟨m5, hm5⟩ : ∃ m, l.length - k = m + 1 := ⟨l.length - k - 1, by omega⟩
          rw [hm5] at hb hs hc5
          have HB := Lib.hid hb
          have HSL := Lib.hid hs
          have HM5 := Lib.hid hm5
          clear hb hs hm5 R
          obtain ⟨x, hxx⟩ : ∃ x, x = X k := ⟨_, rfl⟩
          rw [Nat.add_zero, Nat.add_zero, ← hxx] at k5
          rw [← hxx] at hxk
          clear hxx
          have HX2 := Lib.hid hxk
          have hxs := Lib.hid (jshape hxk)
          have K5 := Lib.hid k5
          clear k5
          rcases jshape hxk with rfl | ⟨xt, xv, rfl⟩
          all_goals
            clear hxk
            go_wp2_with (first
              | (go_at_call 79; go_must (refine (next_slice _ g b5 o5 m5 c5 _ hxs.out (by omega) K5.out HB.out).mono ?_; rintro e w2 ⟨rfl, hw2⟩; have hst := R0.out.step (w2 := w2) (by rw [hw2]; exact (Chg.refl _ _).setCell _ _ fun _ h => h rfl) hg; have HIT := Lib.hid (show ItS w2 okX g _ l.length (k + 1) X by rw [hw2]; exact it_next HB.out HSL.out HM5.out (fun b hb => (HOK.out b hb).2)); have HRES := Lib.hid hst.1; have HOUT := Lib.hid hst.2.1; have HROW := Lib.hid hst.2.2.1; have HCHG := Lib.hid hst.2.2.2; have HXK := Lib.hid (HX2.out.chg (hst.2.2.2.mono fun b _ hb => (HOK.out b hb).2)); have y0 : w2.cell? ⟨w.heap.size + 1, 0, none⟩ = some (.slice A k c) := hst.2.1.cell 0; have hlo := hst.2.1.lt; have hty := fun W => err_none HX2.out W; clear hst hw2))
              | (go_at_call 15; go_must (refine (fromGo_any mapFromGo_any (toJ_good HG1.out) _ okX _ HXK.out).mono ?_; rintro e w3 ⟨d0, d1, d2, d3, d4, d5, rfl, hv, ho⟩; rw [ofJ_toJ HG1.out] at hv; have HO3 := Lib.hid ho; have hsz3 := ho.size; have hob := HOUT.out.old ho; have z0 : w3.cell? ⟨w.heap.size + 1, 0, none⟩ = some (.slice A k c) := hob.cell 0; have hs1 : w.heap.size + 1 < w3.heap.size := hob.lt; obtain ⟨B1, q1, p1, B2, q2, p2, B3, q3, p3, rfl, rfl, rfl, rfl, rfl, rfl⟩ := shape hv; obtain ⟨kd, hkd⟩ : ∃ x, x = (nth l k).kind := ⟨_, rfl⟩; obtain ⟨hf, hhf⟩ : ∃ x, x = (nth l k).half := ⟨_, rfl⟩; obtain ⟨tx, htx⟩ : ∃ x, x = (nth l k).text := ⟨_, rfl⟩; rw [← hkd, ← hhf, ← htx] at hv ⊢; have HV := Lib.hid hv; clear hv hkd hhf htx ho hob))
              | (at_builtin; go_must (refine wpList_append_lies _ rfl _ _ _ rfl (w.heap.size + 2) 27 iv _ 6 104 Tryd.underlying22 HI.out HZ0.out HZ1.out HZ2.out rfl (by decide) (.slice A k c) k xs rfl (own_old HROW.out.row (HO3.out.trans (((Old.refl _).alloc _).alloc _))) ⟨w3.heap.size + 1, 0, none⟩ 1 1 [.int .i64 kd, .int .i64 hf, .string tx, .slice B1 q1 p1, .slice B2 q2 p2, .slice B3 q3 p3] rfl rfl (news_six (by simp) _ _) (one_six HV.out) (by decide) (by unfold maxLen; omega) (by omega) (by simp; omega) (w3.heap.size + 2) (by simp) ?_; intro gn cap w4 hown hgrow hat hlt4; have HP := Lib.hid (Outs.put HIT.out HRES.out HOUT.out HROW.out HCHG.out hg (fun b hb => (HOK.out b hb).1) HO3.out HV.out (((Old.refl _).alloc _).alloc _) hown hgrow (by simpa using hat)); have hm : Blk w4 (w.heap.size + 1) (zero8 (.slice A k c) 0) 29 := (HOUT.out.old (HO3.out.trans (((Old.refl _).alloc _).alloc _))).chg (Chg.grown (ok := fun b => some b ≠ (Value.slice A k c).ownBlock) (Chg.refl _ _) hgrow fun _ _ ho => ho) (fun e => by have := own_lt HROW.out.row e.symm; omega); have z0 : w4.cell? ⟨w.heap.size + 1, 0, none⟩ = some (.slice A k c) := hm.cell 0; have zf0 := hm.frozen 0; have zl := hm.lt; clear hown hgrow hat hm)))
            go_roundg (gk - 1)
            case measure => omega
            case rel => exact ⟨k + 1, _, _, by omega, by omega, by first | rfl | trivial, HP.out⟩
      · have hkk : k = l.length := by omega
        have HKK := Lib.hid hkk
        have hit := R.it
        rw [← hkk] at hit
        clear hkk hkn
        rcases hit with ⟨h0, rfl⟩ | ⟨h1, rfl, hb⟩ | ⟨rfl, S, hb, hs⟩
        · clear h0
          go_wp2_with (go_at_call 77; go_must (refine (next_empty _).mono ?_; rintro e w2 ⟨rfl, ho⟩; have HO := Lib.hid ho; have oo := R0.out.out.old ho; have rr := R0.out.res.old ho; have y0 : w2.cell? ⟨w.heap.size + 1, 0, none⟩ = some (.slice A k c) := oo.cell 0; have y1 : w2.cell? ⟨w.heap.size + 1, 1, none⟩ = some (.int .i64 0) := oo.cell 1; have y2 : w2.cell? ⟨w.heap.size + 1, 2, none⟩ = some (.int .i64 0) := oo.cell 2; have y3 : w2.cell? ⟨w.heap.size + 1, 3, none⟩ = some (.int .i64 0) := oo.cell 3; have y4 : w2.cell? ⟨w.heap.size + 1, 4, none⟩ = some (.string ⟨#[]⟩) := oo.cell 4; have y5 : w2.cell? ⟨w.heap.size + 1, 5, none⟩ = some (.slice none 0 0) := oo.cell 5; have y6 : w2.cell? ⟨w.heap.size + 1, 6, none⟩ = some (.slice none 0 0) := oo.cell 6; have y7 : w2.cell? ⟨w.heap.size + 1, 7, none⟩ = some (.slice none 0 0) := oo.cell 7; have r0 : w2.cell? ⟨w.heap.size, 0, none⟩ = some (.slice none 0 0) := rr.cell 0; have f0 := rr.frozen 0; have r1 : w2.cell? ⟨w.heap.size, 1, none⟩ = some (.int .i64 0) := rr.cell 1; have f1 := rr.frozen 1; have r2 : w2.cell? ⟨w.heap.size, 2, none⟩ = some (.int .i64 0) := rr.cell 2; have f2 := rr.frozen 2; have r3 : w2.cell? ⟨w.heap.size, 3, none⟩ = some (.int .i64 0) := rr.cell 3; have f3 := rr.frozen 3; have r4 : w2.cell? ⟨w.heap.size, 4, none⟩ = some (.string ⟨#[]⟩) := rr.cell 4; have f4 := rr.frozen 4; have r5 : w2.cell? ⟨w.heap.size, 5, none⟩ = some (.slice none 0 0) := rr.cell 5; have f5 := rr.frozen 5; have r6 : w2.cell? ⟨w.heap.size, 6, none⟩ = some (.slice none 0 0) := rr.cell 6; have f6 := rr.frozen 6; have r7 : w2.cell? ⟨w.heap.size, 7, none⟩ = some (.slice none 0 0) := rr.cell 7; have f7 := rr.frozen 7; have hl2 := oo.lt; clear ho oo rr))
          refine bodyPost_ret (v := .agg #[.slice A k c, .int .i64 0, .int .i64 0, .int .i64 0, .string ⟨#[]⟩, .slice none 0 0, .slice none 0 0, .slice none 0 0]) (by simp [results, Tryd.results9, go_sem, r0, r1, r2, r3, r4, r5, r6, r7]) rfl ?_
          exact R0.out.fin (((Chg.mono (Old.chg HO.out) fun _ _ h => h)).trans (((((((((Chg.refl _ w2).setCell _ _ fun _ h => h.1 rfl).setCell _ _ fun _ h => h.1 rfl).setCell _ _ fun _ h => h.1 rfl).setCell _ _ fun _ h => h.1 rfl).setCell _ _ fun _ h => h.1 rfl).setCell _ _ fun _ h => h.1 rfl).setCell _ _ fun _ h => h.1 rfl).setCell _ _ fun _ h => h.1 rfl)) (by have := HKK.out; omega) (fun _ => rfl)
        · have hb' : Blk wr g #[X 0, .bool true] 59 := by rw [h1] at hb; exact hb
          have HB := Lib.hid hb'
          clear hb hb' y0 h1
          have oo := R0.out.out
          have rr := R0.out.res
          have y0 : wr.cell? ⟨w.heap.size + 1, 0, none⟩ = some (.slice A k c) := oo.cell 0
          have y1 : wr.cell? ⟨w.heap.size + 1, 1, none⟩ = some (.int .i64 0) := oo.cell 1
          have y2 : wr.cell? ⟨w.heap.size + 1, 2, none⟩ = some (.int .i64 0) := oo.cell 2
          have y3 : wr.cell? ⟨w.heap.size + 1, 3, none⟩ = some (.int .i64 0) := oo.cell 3
          have y4 : wr.cell? ⟨w.heap.size + 1, 4, none⟩ = some (.string ⟨#[]⟩) := oo.cell 4
          have y5 : wr.cell? ⟨w.heap.size + 1, 5, none⟩ = some (.slice none 0 0) := oo.cell 5
          have y6 : wr.cell? ⟨w.heap.size + 1, 6, none⟩ = some (.slice none 0 0) := oo.cell 6
          have y7 : wr.cell? ⟨w.heap.size + 1, 7, none⟩ = some (.slice none 0 0) := oo.cell 7
          have r0 : wr.cell? ⟨w.heap.size, 0, none⟩ = some (.slice none 0 0) := rr.cell 0
          have f0 := rr.frozen 0
          have r1 : wr.cell? ⟨w.heap.size, 1, none⟩ = some (.int .i64 0) := rr.cell 1
          have f1 := rr.frozen 1
          have r2 : wr.cell? ⟨w.heap.size, 2, none⟩ = some (.int .i64 0) := rr.cell 2
          have f2 := rr.frozen 2
          have r3 : wr.cell? ⟨w.heap.size, 3, none⟩ = some (.int .i64 0) := rr.cell 3
          have f3 := rr.frozen 3
          have r4 : wr.cell? ⟨w.heap.size, 4, none⟩ = some (.string ⟨#[]⟩) := rr.cell 4
          have f4 := rr.frozen 4
          have r5 : wr.cell? ⟨w.heap.size, 5, none⟩ = some (.slice none 0 0) := rr.cell 5
          have f5 := rr.frozen 5
          have r6 : wr.cell? ⟨w.heap.size, 6, none⟩ = some (.slice none 0 0) := rr.cell 6
          have f6 := rr.frozen 6
          have r7 : wr.cell? ⟨w.heap.size, 7, none⟩ = some (.slice none 0 0) := rr.cell 7
          have f7 := rr.frozen 7
          clear oo rr R
          go_wp2_with (go_at_call 78; go_must (refine (next_unit_no _ g _ HB.out).mono ?_; rintro e w2 ⟨rfl, rfl⟩))
          refine bodyPost_ret (v := .agg #[.slice A k c, .int .i64 0, .int .i64 0, .int .i64 0, .string ⟨#[]⟩, .slice none 0 0, .slice none 0 0, .slice none 0 0]) (by simp [results, Tryd.results9, go_sem, r0, r1, r2, r3, r4, r5, r6, r7]) rfl ?_
          exact R0.out.fin (((((((((Chg.refl _ _).setCell _ _ fun _ h => h.1 rfl).setCell _ _ fun _ h => h.1 rfl).setCell _ _ fun _ h => h.1 rfl).setCell _ _ fun _ h => h.1 rfl).setCell _ _ fun _ h => h.1 rfl).setCell _ _ fun _ h => h.1 rfl).setCell _ _ fun _ h => h.1 rfl).setCell _ _ fun _ h => h.1 rfl) (by have := HKK.out; omega) (fun _ => rfl)
        · obtain ⟨A5, c5, rfl, hc5⟩ := hs.len
          rw [Nat.sub_self] at hb
          have HB := Lib.hid hb
          clear hb hs hc5 y0
          have oo := R0.out.out
          have rr := R0.out.res
          have y0 : wr.cell? ⟨w.heap.size + 1, 0, none⟩ = some (.slice A k c) := oo.cell 0
          have y1 : wr.cell? ⟨w.heap.size + 1, 1, none⟩ = some (.int .i64 0) := oo.cell 1
          have y2 : wr.cell? ⟨w.heap.size + 1, 2, none⟩ = some (.int .i64 0) := oo.cell 2
          have y3 : wr.cell? ⟨w.heap.size + 1, 3, none⟩ = some (.int .i64 0) := oo.cell 3
          have y4 : wr.cell? ⟨w.heap.size + 1, 4, none⟩ = some (.string ⟨#[]⟩) := oo.cell 4
          have y5 : wr.cell? ⟨w.heap.size + 1, 5, none⟩ = some (.slice none 0 0) := oo.cell 5
          have y6 : wr.cell? ⟨w.heap.size + 1, 6, none⟩ = some (.slice none 0 0) := oo.cell 6
          have y7 : wr.cell? ⟨w.heap.size + 1, 7, none⟩ = some (.slice none 0 0) := oo.cell 7
          have r0 : wr.cell? ⟨w.heap.size, 0, none⟩ = some (.slice none 0 0) := rr.cell 0
          have f0 := rr.frozen 0
          have r1 : wr.cell? ⟨w.heap.size, 1, none⟩ = some (.int .i64 0) := rr.cell 1
          have f1 := rr.frozen 1
          have r2 : wr.cell? ⟨w.heap.size, 2, none⟩ = some (.int .i64 0) := rr.cell 2
          have f2 := rr.frozen 2
          have r3 : wr.cell? ⟨w.heap.size, 3, none⟩ = some (.int .i64 0) := rr.cell 3
          have f3 := rr.frozen 3
          have r4 : wr.cell? ⟨w.heap.size, 4, none⟩ = some (.string ⟨#[]⟩) := rr.cell 4
          have f4 := rr.frozen 4
          have r5 : wr.cell? ⟨w.heap.size, 5, none⟩ = some (.slice none 0 0) := rr.cell 5
          have f5 := rr.frozen 5
          have r6 : wr.cell? ⟨w.heap.size, 6, none⟩ = some (.slice none 0 0) := rr.cell 6
          have f6 := rr.frozen 6
          have r7 : wr.cell? ⟨w.heap.size, 7, none⟩ = some (.slice none 0 0) := rr.cell 7
          have f7 := rr.frozen 7
          clear oo rr R
          go_wp2_with (go_at_call 79; go_must (refine (next_slice_no _ g _ _ HB.out).mono ?_; rintro e w2 ⟨rfl, rfl⟩))
          refine bodyPost_ret (v := .agg #[.slice A k c, .int .i64 0, .int .i64 0, .int .i64 0, .string ⟨#[]⟩, .slice none 0 0, .slice none 0 0, .slice none 0 0]) (by simp [results, Tryd.results9, go_sem, r0, r1, r2, r3, r4, r5, r6, r7]) rfl ?_
          exact R0.out.fin (((((((((Chg.refl _ _).setCell _ _ fun _ h => h.1 rfl).setCell _ _ fun _ h => h.1 rfl).setCell _ _ fun _ h => h.1 rfl).setCell _ _ fun _ h => h.1 rfl).setCell _ _ fun _ h => h.1 rfl).setCell _ _ fun _ h => h.1 rfl).setCell _ _ fun _ h => h.1 rfl).setCell _ _ fun _ h => h.1 rfl) (by have := HKK.out; omega) (fun _ => rfl)
    · obtain rfl : k = M := by omega
      have y1 : wr.cell? ⟨w.heap.size + 1, 1, none⟩ = some (.int .i64 0) := R.out.cell 1
      have y2 : wr.cell? ⟨w.heap.size + 1, 2, none⟩ = some (.int .i64 0) := R.out.cell 2
      have y3 : wr.cell? ⟨w.heap.size + 1, 3, none⟩ = some (.int .i64 0) := R.out.cell 3
      have y4 : wr.cell? ⟨w.heap.size + 1, 4, none⟩ = some (.string ⟨#[]⟩) := R.out.cell 4
      have y5 : wr.cell? ⟨w.heap.size + 1, 5, none⟩ = some (.slice none 0 0) := R.out.cell 5
      have y6 : wr.cell? ⟨w.heap.size + 1, 6, none⟩ = some (.slice none 0 0) := R.out.cell 6
      have y7 : wr.cell? ⟨w.heap.size + 1, 7, none⟩ = some (.slice none 0 0) := R.out.cell 7
      have g1 := R.out.frozen 1
      have r0 : wr.cell? ⟨w.heap.size, 0, none⟩ = some (.slice none 0 0) := R.res.cell 0
      have f0 := R.res.frozen 0
      have r1 : wr.cell? ⟨w.heap.size, 1, none⟩ = some (.int .i64 0) := R.res.cell 1
      have f1 := R.res.frozen 1
      have r2 : wr.cell? ⟨w.heap.size, 2, none⟩ = some (.int .i64 0) := R.res.cell 2
      have f2 := R.res.frozen 2
      have r3 : wr.cell? ⟨w.heap.size, 3, none⟩ = some (.int .i64 0) := R.res.cell 3
      have f3 := R.res.frozen 3
      have r4 : wr.cell? ⟨w.heap.size, 4, none⟩ = some (.string ⟨#[]⟩) := R.res.cell 4
      have f4 := R.res.frozen 4
      have r5 : wr.cell? ⟨w.heap.size, 5, none⟩ = some (.slice none 0 0) := R.res.cell 5
      have f5 := R.res.frozen 5
      have r6 : wr.cell? ⟨w.heap.size, 6, none⟩ = some (.slice none 0 0) := R.res.cell 6
      have f6 := R.res.frozen 6
      have r7 : wr.cell? ⟨w.heap.size, 7, none⟩ = some (.slice none 0 0) := R.res.cell 7
      have f7 := R.res.frozen 7
      clear R
      go_wp2
      refine bodyPost_ret (v := .agg #[.slice A k c, .int .i64 2, .int .i64 0, .int .i64 0, .string ⟨#[]⟩, .slice none 0 0, .slice none 0 0, .slice none 0 0]) (by simp [results, Tryd.results9, go_sem, r0, r1, r2, r3, r4, r5, r6, r7]) rfl ?_
      exact R0.out.fin ((((((((((Chg.refl _ wr).setCell _ _ fun _ h => h.2 rfl).setCell _ _ fun _ h => h.1 rfl).setCell _ _ fun _ h => h.1 rfl).setCell _ _ fun _ h => h.1 rfl).setCell _ _ fun _ h => h.1 rfl).setCell _ _ fun _ h => h.1 rfl).setCell _ _ fun _ h => h.1 rfl).setCell _ _ fun _ h => h.1 rfl).setCell _ _ fun _ h => h.1 rfl) (by omega) (fun h => absurd h (by omega))
end Go.Proofs.YtehfmaiogbehgaaDoor
