/-
  Two maps are merged, through the thin package's door.
  Conditions: each is the same right map, or one without keys.
-/
import Derived.Test.YtpoanncombcemaaDoorDeep2
import Derived.Test.YtpoanncombcemaaDoorRev2
import Derived.Deep.DeepMust
namespace Go.Proofs.YtpoanncombcemaaDoor
open Go.RowKit Go.Maps

def V.emptyMap : V := .mk 6 0 nilS [] [] []
theorem Good.emptyMap : Good V.emptyMap :=
  .mk 6 0 nilS [] [] [] (by decide) (by decide) (.inr rfl) (.inr rfl) (.inr rfl) (.inl rfl) rfl ⟨by decide, by decide, .inl rfl⟩ ⟨by decide, by decide⟩ (by simp) (by simp) List.Pairwise.nil (fun _ h => by cases h) (fun _ h => by cases h) (fun _ h => by cases h)
/-- v, or the map without keys. -/
def Or_ (v u : V) : Prop := u = v ∨ u = V.emptyMap

def TurnedMap (v u : V) (w : World) (e : Ending) (w' : World) : Prop := ∃ b D f, e = .returned (.tuple #[.map (some b), .bool true]) ∧ Half (fun _ => True) w' v.keys (toJs v.vals) b D f ∧ (u = v → f = true) ∧ Old w w'
theorem mapToGo_or {v u : V} (hg : Good v) (hs : Small v) (hk : v.kind = 6) (hu : Or_ v u) (w : World) (ok : Nat → Prop) (c0 c1 c2 c3 c4 c5 : Value) (hc : KV w ok u [c0, c1, c2, c3, c4, c5]) :
    Calls Tryd.prog 36 #[.agg #[c0, c1, c2, c3, c4, c5]] w (TurnedMap v u w) := by
  have gu : Good u := by
    rcases hu with rfl | rfl
    · exact hg
    · exact Good.emptyMap
  obtain ⟨A1, n1, m1, A2, n2, m2, A3, n3, m3, rfl, rfl, rfl, rfl, rfl, rfl⟩ := shape hc
  have key : ∀ (e : Ending) (w' : World), ToGom w u.keys u.vals e w' → TurnedMap v u w e w' := by
    rintro e w' ⟨b, rfl, _, ⟨xs, hm, hxl, hx⟩, ho⟩
    rcases hu with rfl | rfl
    · obtain ⟨hkv, hk4⟩ : u.keys.length = u.vals.length ∧ u.keys.length ≤ 400 := by
        generalize u = q at hg hs
        cases hg
        cases hs
        exact ⟨by assumption, by assumption⟩
      exact ⟨b, _, true, rfl, ⟨xs, .inl ⟨⟨rfl, rfl, by omega, hk4, fun i hi => by rw [jth_map u.vals i (by omega)]; exact (hx i (by omega)).mono fun _ _ _ => trivial⟩, hm⟩⟩, fun _ => rfl, ho⟩
    · have hx0 : xs = [] := List.eq_nil_of_length_eq_zero hxl
      subst hx0
      by_cases he : V.emptyMap = v
      · subst he
        exact ⟨b, _, true, rfl, ⟨[], .inl ⟨⟨rfl, rfl, rfl, by simp [V.emptyMap, V.keys], fun i hi => absurd hi (by simp [V.emptyMap, V.keys])⟩, hm⟩⟩, fun _ => rfl, ho⟩
      · exact ⟨b, _, false, rfl, ⟨[], .inr ⟨rfl, rfl, hm⟩⟩, fun h => absurd h he, ho⟩
  cases gu with
  | mk k h t l ks vs k0 k6 hk' tk lk kk kv hh ht hl hv hks hkt gl gv =>
    exact (mapToGo_any k h t l ks vs hv kv hks (fun s hs => (hkt s hs).1) (fun x hx => toGo_any (gv x hx)) w ok A1 A2 A3 n1 m1 n2 m2 n3 m3 hc).mono key

theorem zmerge_any {v : V} (hg : Good v) (hs : Small v) (hk : v.kind = 6) (w : World) (bl br : Nat) (Dl Dr : DataW Value) (fl fr : Bool) (hl : Half (fun _ => True) w v.keys (toJs v.vals) bl Dl fl) (hr : Half (fun _ => True) w v.keys (toJs v.vals) br Dr fr) (hf : (fl || fr) = true) :
    Calls Tryd.prog 37 #[.map (some bl), .map (some br)] w (GoAns w (toJ v)) := by
  have H := Lib.hid (deep_any hg hs hk w _ bl br Dl Dr fl fr hl hr hf)
  have e : toJ v = .obj v.keys (toJs v.vals) := by
    cases v
    simp only [V.kind] at hk
    subst hk
    simp [toJ, V.keys, V.vals]
  rw [e]
  clear hl hr hf hg hs hk e
  go_enter Tryd.func37, Tryd.ntmps37
  go_wp2_with (go_at_call 50; go_must (refine H.out.mono ?_; rintro e w2 ⟨y, rfl, hy, ho⟩; have HY := Lib.hid hy; have HO := Lib.hid ho; clear hy ho))
  go_ret
  exact ⟨_, rfl, HY.out.mono fun _ _ _ => trivial, HO.out⟩

set_option maxHeartbeats 4000000 in
set_option maxRecDepth 100000 in
theorem merge_any {v a b : V} (hg : Good v) (hs : Small v) (hk : v.kind = 6) (ha : Or_ v a) (hb : Or_ v b) (hab : a = v ∨ b = v) (w : World) (ok : Nat → Prop) (c0 c1 c2 c3 c4 c5 d0 d1 d2 d3 d4 d5 : Value) (hc : KV w ok a [c0, c1, c2, c3, c4, c5]) (hd : KV w ok b [d0, d1, d2, d3, d4, d5]) :
    Calls Tryd.prog 19 #[.agg #[c0, c1, c2, c3, c4, c5], .agg #[d0, d1, d2, d3, d4, d5]] w (AltAns w v) := by
  have hka : a.kind = 6 := by rcases ha with rfl | rfl <;> first | exact hk | rfl
  have hkb : b.kind = 6 := by rcases hb with rfl | rfl <;> first | exact hk | rfl
  have HFR := Lib.hid (fromGo_any mapFromGo_any (toJ_good hg))
  have HG := Lib.hid hg
  have HS := Lib.hid hs
  have HK := Lib.hid hk
  have HA := Lib.hid ha
  have HB := Lib.hid hb
  have HAB := Lib.hid hab
  have C := Lib.hid hc
  have D := Lib.hid hd
  obtain ⟨A1, n1, m1, A2, n2, m2, A3, n3, m3, rfl, rfl, rfl, rfl, rfl, rfl⟩ := shape hc
  obtain ⟨B1, l1, p1, B2, l2, p2, B3, l3, p3, rfl, rfl, rfl, rfl, rfl, rfl⟩ := shape hd
  rw [hka] at C ⊢
  rw [hkb] at D ⊢
  clear hc hd hka hkb hg hs hk ha hb hab
  generalize a.half = fa at *
  generalize a.text = ta at *
  generalize b.half = fb at *
  generalize b.text = tb at *
  have ho := (((Old.refl w).alloc (.cells #[.int .i64 6, .int .i64 fa, .string ta, .slice A1 n1 m1, .slice A2 n2 m2, .slice A3 n3 m3] 26)).alloc (.cells #[.int .i64 6, .int .i64 fb, .string tb, .slice B1 l1 p1, .slice B2 l2 p2, .slice B3 l3 p3] 26)).alloc (.cells #[.int .i64 0, .int .i64 0, .string ⟨#[]⟩, .slice none 0 0, .slice none 0 0, .slice none 0 0, .int .i64 0] 31)
  have HO := Lib.hid ho
  clear ho
  have BA := Lib.hid (((Blk.new w #[.int .i64 6, .int .i64 fa, .string ta, .slice A1 n1 m1, .slice A2 n2 m2, .slice A3 n3 m3] 26).alloc (.cells #[.int .i64 6, .int .i64 fb, .string tb, .slice B1 l1 p1, .slice B2 l2 p2, .slice B3 l3 p3] 26)).alloc (.cells #[.int .i64 0, .int .i64 0, .string ⟨#[]⟩, .slice none 0 0, .slice none 0 0, .slice none 0 0, .int .i64 0] 31))
  have BB := Lib.hid (show Blk (((w.alloc (.cells #[.int .i64 6, .int .i64 fa, .string ta, .slice A1 n1 m1, .slice A2 n2 m2, .slice A3 n3 m3] 26)).alloc (.cells #[.int .i64 6, .int .i64 fb, .string tb, .slice B1 l1 p1, .slice B2 l2 p2, .slice B3 l3 p3] 26)).alloc (.cells #[.int .i64 0, .int .i64 0, .string ⟨#[]⟩, .slice none 0 0, .slice none 0 0, .slice none 0 0, .int .i64 0] 31)) (w.heap.size + 1) #[.int .i64 6, .int .i64 fb, .string tb, .slice B1 l1 p1, .slice B2 l2 p2, .slice B3 l3 p3] 26 by
    have hb := (Blk.new (w.alloc (.cells #[.int .i64 6, .int .i64 fa, .string ta, .slice A1 n1 m1, .slice A2 n2 m2, .slice A3 n3 m3] 26)) #[.int .i64 6, .int .i64 fb, .string tb, .slice B1 l1 p1, .slice B2 l2 p2, .slice B3 l3 p3] 26).alloc (.cells #[.int .i64 0, .int .i64 0, .string ⟨#[]⟩, .slice none 0 0, .slice none 0 0, .slice none 0 0, .int .i64 0] 31)
    rw [show (w.alloc (.cells #[.int .i64 6, .int .i64 fa, .string ta, .slice A1 n1 m1, .slice A2 n2 m2, .slice A3 n3 m3] 26)).heap.size = w.heap.size + 1 by simp] at hb
    exact hb)
  have RB := Lib.hid (show Blk (((w.alloc (.cells #[.int .i64 6, .int .i64 fa, .string ta, .slice A1 n1 m1, .slice A2 n2 m2, .slice A3 n3 m3] 26)).alloc (.cells #[.int .i64 6, .int .i64 fb, .string tb, .slice B1 l1 p1, .slice B2 l2 p2, .slice B3 l3 p3] 26)).alloc (.cells #[.int .i64 0, .int .i64 0, .string ⟨#[]⟩, .slice none 0 0, .slice none 0 0, .slice none 0 0, .int .i64 0] 31)) (w.heap.size + 2) #[.int .i64 0, .int .i64 0, .string ⟨#[]⟩, .slice none 0 0, .slice none 0 0, .slice none 0 0, .int .i64 0] 31 by
    have hb := Blk.new ((w.alloc (.cells #[.int .i64 6, .int .i64 fa, .string ta, .slice A1 n1 m1, .slice A2 n2 m2, .slice A3 n3 m3] 26)).alloc (.cells #[.int .i64 6, .int .i64 fb, .string tb, .slice B1 l1 p1, .slice B2 l2 p2, .slice B3 l3 p3] 26)) #[.int .i64 0, .int .i64 0, .string ⟨#[]⟩, .slice none 0 0, .slice none 0 0, .slice none 0 0, .int .i64 0] 31
    rw [show ((w.alloc (.cells #[.int .i64 6, .int .i64 fa, .string ta, .slice A1 n1 m1, .slice A2 n2 m2, .slice A3 n3 m3] 26)).alloc (.cells #[.int .i64 6, .int .i64 fb, .string tb, .slice B1 l1 p1, .slice B2 l2 p2, .slice B3 l3 p3] 26)).heap.size = w.heap.size + 2 by simp] at hb
    exact hb)
  have HC1 := Lib.hid (mapToGo_or HG.out HS.out HK.out HA.out _ ok _ _ _ _ _ _ (C.out.old HO.out))
  obtain ⟨ke, hke⟩ : ∃ x, x = (ofJ (toJ v)).kind := ⟨_, rfl⟩
  obtain ⟨fe, hfe⟩ : ∃ x, x = (ofJ (toJ v)).half := ⟨_, rfl⟩
  obtain ⟨te, hte⟩ : ∃ x, x = (ofJ (toJ v)).text := ⟨_, rfl⟩
  have KE := Lib.hid hke
  have FE := Lib.hid hfe
  have TE := Lib.hid hte
  clear hke hfe hte
  go_enter Tryd.func19, Tryd.ntmps19
  go_wp2_with (first
    | (go_at_call 36; have hq := HO2; clear hq; go_must (refine (mapToGo_or HG.out HS.out HK.out HB.out _ ok _ _ _ _ _ _ (D.out.old (HO.out.trans HO2.out))).mono ?_; rintro e w3 ⟨b3, D3, f3', rfl, hh3, hf3, ho3⟩; have HH3 := Lib.hid hh3; have HF3 := Lib.hid hf3; have HO3 := Lib.hid ho3; have ba := BA.out.old (HO2.out.trans ho3); have by_ := BB.out.old (HO2.out.trans ho3); have z0 := ba.cell 0; have zb0 := by_.cell 0; have hla := ba.lt; have hlb := by_.lt; clear hh3 hf3 ho3 ba by_ y0 y1 y2 y3 y4 y5 hbl2))
    | (go_at_call 36; go_must (refine HC1.out.mono ?_; rintro e w2 ⟨b2, D2, f2', rfl, hh2, hf2, ho2⟩; have HH2 := Lib.hid hh2; have HF2 := Lib.hid hf2; have HO2 := Lib.hid ho2; have by_ := BB.out.old ho2; have y0 := by_.cell 0; have y1 := by_.cell 1; have y2 := by_.cell 2; have y3 := by_.cell 3; have y4 := by_.cell 4; have y5 := by_.cell 5; have hbl2 := by_.lt; clear hh2 hf2 ho2 by_))
    | (go_at_call 37; go_must (refine (zmerge_any HG.out HS.out HK.out _ _ _ _ _ _ _ (HH2.out.old HO3.out) HH3.out (by rcases HAB.out with h | h <;> simp [HF2.out, HF3.out, h])).mono ?_; rintro e w4 ⟨y, rfl, hy, ho4⟩; have HY := Lib.hid hy; have HO4 := Lib.hid ho4; clear hy ho4))
    | (go_at_call 32; go_must (refine (result_any HFR.out _ (fun _ => True) _ HY.out).mono ?_; rintro e w5 ⟨e0, e1, e2, e3, e4, e5, rfl, hv, ho5⟩; have HO5 := Lib.hid (HO.out.trans (HO2.out.trans (HO3.out.trans (HO4.out.trans ho5)))); have bx := RB.out.old (HO2.out.trans (HO3.out.trans (HO4.out.trans ho5))); have x0 := bx.cell 0; have x1 := bx.cell 1; have x2 := bx.cell 2; have x3 := bx.cell 3; have x4 := bx.cell 4; have x5 := bx.cell 5; have x6 := bx.cell 6; have f0 := bx.frozen 0; have f1 := bx.frozen 1; have f2 := bx.frozen 2; have f3 := bx.frozen 3; have f4 := bx.frozen 4; have f5 := bx.frozen 5; have f6 := bx.frozen 6; have hbl := bx.lt; obtain ⟨E1, q1, r1, E2, q2, r2, E3, q3, r3, rfl, rfl, rfl, rfl, rfl, rfl⟩ := shape hv; rw [← KE.out, ← FE.out, ← TE.out] at hv ⊢; have HV := Lib.hid hv; clear hv ho5 bx)))
  refine bodyPost_ret (v := .agg #[.int .i64 ke, .int .i64 fe, .string te, .slice E1 q1 r1, .slice E2 q2 r2, .slice E3 q3 r3, .int .i64 0]) (by simp [results, Tryd.results19, go_sem, x0, x1, x2, x3, x4, x5, x6]) rfl ?_
  have hc := seven_stores w5 (w.heap.size + 2) (.int .i64 ke) (.int .i64 fe) (.string te) (.slice E1 q1 r1) (.slice E2 q2 r2) (.slice E3 q3 r3) (.int .i64 0)
  have hs := RB.out.lt
  have hsz := (HO2.out.trans (HO3.out.trans HO4.out)).size
  have hcl : ∀ b : Nat, w4.heap.size ≤ b → b ≠ w.heap.size + 2 ∧ w.heap.size ≤ b := fun b hb => by omega
  have hv := HV.out
  rw [ofJ_toJ HG.out] at hv
  exact ⟨_, _, _, _, _, _, rfl, (hv.chg (Chg.mono hc fun b _ hb => (hcl b hb).1)).mono fun b hb _ => (hcl b hb).2, Old.chg_ HO5.out hc fun b hb => Nat.ne_of_lt (by omega)⟩
end Go.Proofs.YtpoanncombcemaaDoor
