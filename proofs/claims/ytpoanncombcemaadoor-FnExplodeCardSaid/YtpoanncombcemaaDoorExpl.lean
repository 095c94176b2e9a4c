/-
  Explode through the thin package's door: a text's code points; an error for all else.
  Conditions: the value is right.
-/
import Derived.Test.YtpoanncombcemaaDoorPoints
namespace Go.Proofs.YtpoanncombcemaaDoor
open Go.RowKit

def V.num (n : Int) : V := .mk 3 (2 * n) nilS [] [] []
theorem Good.num {n : Nat} (h : n ≤ 1114111) : Good (V.num n) :=
  .mk 3 _ nilS [] [] [] (by decide) (by decide) (.inl rfl) (.inr rfl) (.inr rfl) (.inr rfl) rfl ⟨by omega, by omega, .inl (by omega)⟩ ⟨by decide, by decide⟩ (by simp) (by simp) List.Pairwise.nil (fun _ h => by cases h) (fun _ h => by cases h) (fun _ h => by cases h)
def numsV (l : List Nat) : V := V.arr (l.map fun (r : Nat) => V.num r)
theorem nums_back (l : List Nat) : ofJ (.arr (l.map fun (r : Nat) => J.int r)) = numsV l := by
  simp only [ofJ, numsV, V.arr, ofJs_map, List.map_map]
  congr 1
theorem nums_good {l : List Nat} (hl : l.length ≤ 1048576) (h : ∀ r ∈ l, r ≤ 1114111) : Good (numsV l) := by
  refine Good.arr (by simpa using hl) fun x hx => ?_
  obtain ⟨r, hr, rfl⟩ := List.mem_map.1 hx
  exact Good.num (h r hr)
theorem nums_jgood {l : List Nat} (hl : l.length ≤ 1048576) (h : ∀ r ∈ l, r ≤ 1114111) : JGood (.arr (l.map fun (r : Nat) => J.int r)) := by
  refine .arr _ (by simpa using hl) fun x hx => ?_
  obtain ⟨r, hr, rfl⟩ := List.mem_map.1 hx
  have := h r hr
  exact .int _ (by omega)

set_option maxRecDepth 100000 in
theorem explode_go (s : ByteArray) (hs : s.size ≤ 1048576) (w : World) : Calls Tryd.prog 51 #[.iface 9 (.string s)] w (GoAns w (.arr ((runes s).map fun (r : Nat) => J.int r))) := by
  have H := Lib.hid (explode_any s hs)
  have t4 := as_str
  go_enter Tryd.func51, Tryd.ntmps51
  go_wp2_with (go_at_call 61; go_must (refine (H.out _).mono ?_; rintro e w2 ⟨v, rfl, hv, ho⟩; have HV := Lib.hid hv; have HO := Lib.hid ho; clear ho; (obtain ⟨A, n, c, rfl⟩ : ∃ A n c, v = .slice A n c := by (cases hv with | arr l v X s r => (obtain ⟨A, c, rfl, _⟩ := s.len; exact ⟨_, _, _, rfl⟩))); clear hv))
  go_ret
  exact ⟨_, rfl, HV.out, HO.out⟩
set_option maxRecDepth 100000 in
theorem explode_bad {w0 : World} {ok : Nat → Prop} {j : J} {x : Value} (h : KJ w0 ok j x) (hj : ∀ s, j ≠ .str s) (w : World) : Calls Tryd.prog 51 #[x] w (GoErr w) := by
  rcases str_or h with ⟨s, rfl, _⟩ | ⟨_, hno⟩
  · exact absurd rfl (hj s)
  · rcases jshape h with rfl | ⟨xt, xv, rfl⟩
    all_goals
      clear h hj
      go_enter Tryd.func51, Tryd.ntmps51
      go_wp2
      go_ret
      exact ⟨_, rfl, by first | exact (Old.refl w).alloc _ | exact ((Old.refl w).alloc _).drew⟩
theorem zexplode_go (s : ByteArray) (hs : s.size ≤ 1048576) (w : World) : Calls Tryd.prog 38 #[.iface 9 (.string s)] w (GoAns w (.arr ((runes s).map fun (r : Nat) => J.int r))) := by
  have H := Lib.hid (explode_go s hs w)
  go_enter Tryd.func38, Tryd.ntmps38
  go_wp2_with (go_at_call 51; go_must (refine H.out.mono ?_; rintro e w2 ⟨y, rfl, hy, ho⟩; have HY := Lib.hid hy; have HO := Lib.hid ho; clear hy ho))
  go_ret
  exact ⟨_, rfl, HY.out, HO.out⟩
theorem zexplode_bad {w0 : World} {ok : Nat → Prop} {j : J} {x : Value} (h : KJ w0 ok j x) (hj : ∀ s, j ≠ .str s) (w : World) : Calls Tryd.prog 38 #[x] w (GoErr w) := by
  have H := Lib.hid (explode_bad h hj w)
  clear h hj
  go_enter Tryd.func38, Tryd.ntmps38
  go_wp2_with (go_at_call 51; go_must (refine H.out.mono ?_; rintro e w2 ⟨y, rfl, ho⟩; have HO := Lib.hid ho; clear ho))
  go_ret
  exact ⟨_, rfl, HO.out⟩

set_option maxHeartbeats 4000000 in
set_option maxRecDepth 100000 in
theorem explode_door (hm : FromsM) {v : V} (hg : Good v) {j : J} (hj : JGood j) (hz : ∀ (W : World) (ok : Nat → Prop) (x : Value), KJ W ok (toJ v) x → Calls Tryd.prog 38 #[x] W (GoAns W j)) (w : World) (ok : Nat → Prop) (c0 c1 c2 c3 c4 c5 : Value) (hc : KV w ok v [c0, c1, c2, c3, c4, c5]) :
    Calls Tryd.prog 21 #[.agg #[c0, c1, c2, c3, c4, c5]] w (AltAns w (ofJ j)) := by
  have HFR := Lib.hid (fromGo_any hm hj)
  have TA := Lib.hid (toGo_any hg)
  have C := Lib.hid hc
  have HZ := Lib.hid hz
  obtain ⟨A1, n1, m1, A2, n2, m2, A3, n3, m3, rfl, rfl, rfl, rfl, rfl, rfl⟩ := shape hc
  generalize v.kind = ka at *
  generalize v.half = fa at *
  generalize v.text = ta at *
  have ho := ((Old.refl w).alloc (.cells #[.int .i64 ka, .int .i64 fa, .string ta, .slice A1 n1 m1, .slice A2 n2 m2, .slice A3 n3 m3] 26)).alloc (.cells #[.int .i64 0, .int .i64 0, .string ⟨#[]⟩, .slice none 0 0, .slice none 0 0, .slice none 0 0, .int .i64 0] 31)
  have HC1 := Lib.hid (TA.out _ ok _ _ _ _ _ _ (C.out.old ho))
  have HO := Lib.hid ho
  clear hc hm ho hz hg hj
  have RB := Lib.hid (show Blk ((w.alloc (.cells #[.int .i64 ka, .int .i64 fa, .string ta, .slice A1 n1 m1, .slice A2 n2 m2, .slice A3 n3 m3] 26)).alloc (.cells #[.int .i64 0, .int .i64 0, .string ⟨#[]⟩, .slice none 0 0, .slice none 0 0, .slice none 0 0, .int .i64 0] 31)) (w.heap.size + 1) #[.int .i64 0, .int .i64 0, .string ⟨#[]⟩, .slice none 0 0, .slice none 0 0, .slice none 0 0, .int .i64 0] 31 by
    have hb := Blk.new (w.alloc (.cells #[.int .i64 ka, .int .i64 fa, .string ta, .slice A1 n1 m1, .slice A2 n2 m2, .slice A3 n3 m3] 26)) #[.int .i64 0, .int .i64 0, .string ⟨#[]⟩, .slice none 0 0, .slice none 0 0, .slice none 0 0, .int .i64 0] 31
    rw [show (w.alloc (.cells #[.int .i64 ka, .int .i64 fa, .string ta, .slice A1 n1 m1, .slice A2 n2 m2, .slice A3 n3 m3] 26)).heap.size = w.heap.size + 1 by simp] at hb
    exact hb)
  obtain ⟨ke, hke⟩ : ∃ x, x = (ofJ j).kind := ⟨_, rfl⟩
  obtain ⟨fe, hfe⟩ : ∃ x, x = (ofJ j).half := ⟨_, rfl⟩
  obtain ⟨te, hte⟩ : ∃ x, x = (ofJ j).text := ⟨_, rfl⟩
  have KE := Lib.hid hke
  have FE := Lib.hid hfe
  have TE := Lib.hid hte
  clear hke hfe hte
  go_enter Tryd.func21, Tryd.ntmps21
  go_wp2_with (first
    | (go_at_call 31; go_must (refine HC1.out.mono ?_; rintro e w2 ⟨x, rfl, hx, ho2⟩; have HX := Lib.hid hx; have HO2 := Lib.hid ho2; clear hx ho2))
    | (go_at_call 38; go_must (refine (HZ.out _ _ _ HX.out).mono ?_; rintro e w4 ⟨y, rfl, hy, ho4⟩; have HY := Lib.hid hy; have HO4 := Lib.hid ho4; clear hy ho4))
    | (go_at_call 32; go_must (refine (result_any HFR.out _ (fun _ => True) _ HY.out).mono ?_; rintro e w5 ⟨e0, e1, e2, e3, e4, e5, rfl, hv, ho5⟩; have HO5 := Lib.hid (HO.out.trans (HO2.out.trans (HO4.out.trans ho5))); have bx := RB.out.old (HO2.out.trans (HO4.out.trans ho5)); have x0 := bx.cell 0; have x1 := bx.cell 1; have x2 := bx.cell 2; have x3 := bx.cell 3; have x4 := bx.cell 4; have x5 := bx.cell 5; have x6 := bx.cell 6; have f0 := bx.frozen 0; have f1 := bx.frozen 1; have f2 := bx.frozen 2; have f3 := bx.frozen 3; have f4 := bx.frozen 4; have f5 := bx.frozen 5; have f6 := bx.frozen 6; have hbl := bx.lt; obtain ⟨E1, q1, r1, E2, q2, r2, E3, q3, r3, rfl, rfl, rfl, rfl, rfl, rfl⟩ := shape hv; rw [← KE.out, ← FE.out, ← TE.out] at hv ⊢; have HV := Lib.hid hv; clear hv ho5 bx)))
  refine bodyPost_ret (v := .agg #[.int .i64 ke, .int .i64 fe, .string te, .slice E1 q1 r1, .slice E2 q2 r2, .slice E3 q3 r3, .int .i64 0]) (by simp [results, Tryd.results21, go_sem, x0, x1, x2, x3, x4, x5, x6]) rfl ?_
  have hc := seven_stores w5 (w.heap.size + 1) (.int .i64 ke) (.int .i64 fe) (.string te) (.slice E1 q1 r1) (.slice E2 q2 r2) (.slice E3 q3 r3) (.int .i64 0)
  have hs := RB.out.lt
  have hsz := (HO2.out.trans HO4.out).size
  have hcl : ∀ b : Nat, w4.heap.size ≤ b → b ≠ w.heap.size + 1 ∧ w.heap.size ≤ b := fun b hb => by omega
  exact ⟨_, _, _, _, _, _, rfl, (HV.out.chg (Chg.mono hc fun b _ hb => (hcl b hb).1)).mono fun b hb _ => (hcl b hb).2, Old.chg_ HO5.out hc fun b hb => Nat.ne_of_lt (by omega)⟩

set_option maxHeartbeats 4000000 in
set_option maxRecDepth 100000 in
theorem explode_err {v : V} (hg : Good v) (hz : ∀ (W : World) (ok : Nat → Prop) (x : Value), KJ W ok (toJ v) x → Calls Tryd.prog 38 #[x] W (GoErr W)) (w : World) (ok : Nat → Prop) (c0 c1 c2 c3 c4 c5 : Value) (hc : KV w ok v [c0, c1, c2, c3, c4, c5]) :
    Calls Tryd.prog 21 #[.agg #[c0, c1, c2, c3, c4, c5]] w (ErrAns w) := by
  have TA := Lib.hid (toGo_any hg)
  have C := Lib.hid hc
  have HZ := Lib.hid hz
  obtain ⟨A1, n1, m1, A2, n2, m2, A3, n3, m3, rfl, rfl, rfl, rfl, rfl, rfl⟩ := shape hc
  generalize v.kind = ka at *
  generalize v.half = fa at *
  generalize v.text = ta at *
  have ho := ((Old.refl w).alloc (.cells #[.int .i64 ka, .int .i64 fa, .string ta, .slice A1 n1 m1, .slice A2 n2 m2, .slice A3 n3 m3] 26)).alloc (.cells #[.int .i64 0, .int .i64 0, .string ⟨#[]⟩, .slice none 0 0, .slice none 0 0, .slice none 0 0, .int .i64 0] 31)
  have HC1 := Lib.hid (TA.out _ ok _ _ _ _ _ _ (C.out.old ho))
  have HO := Lib.hid ho
  clear hc ho hz hg
  have RB := Lib.hid (show Blk ((w.alloc (.cells #[.int .i64 ka, .int .i64 fa, .string ta, .slice A1 n1 m1, .slice A2 n2 m2, .slice A3 n3 m3] 26)).alloc (.cells #[.int .i64 0, .int .i64 0, .string ⟨#[]⟩, .slice none 0 0, .slice none 0 0, .slice none 0 0, .int .i64 0] 31)) (w.heap.size + 1) #[.int .i64 0, .int .i64 0, .string ⟨#[]⟩, .slice none 0 0, .slice none 0 0, .slice none 0 0, .int .i64 0] 31 by
    have hb := Blk.new (w.alloc (.cells #[.int .i64 ka, .int .i64 fa, .string ta, .slice A1 n1 m1, .slice A2 n2 m2, .slice A3 n3 m3] 26)) #[.int .i64 0, .int .i64 0, .string ⟨#[]⟩, .slice none 0 0, .slice none 0 0, .slice none 0 0, .int .i64 0] 31
    rw [show (w.alloc (.cells #[.int .i64 ka, .int .i64 fa, .string ta, .slice A1 n1 m1, .slice A2 n2 m2, .slice A3 n3 m3] 26)).heap.size = w.heap.size + 1 by simp] at hb
    exact hb)
  go_enter Tryd.func21, Tryd.ntmps21
  go_wp2_with (first
    | (go_at_call 31; go_must (refine HC1.out.mono ?_; rintro e w2 ⟨x, rfl, hx, ho2⟩; have HX := Lib.hid hx; have HO2 := Lib.hid ho2; clear hx ho2))
    | (go_at_call 38; go_must (refine (HZ.out _ _ _ HX.out).mono ?_; rintro e w4 ⟨y, rfl, ho4⟩; have HO4 := Lib.hid ho4; clear ho4))
    | (go_at_call 32; go_must (refine (result_err _ _).mono ?_; rintro e w5 ⟨rfl, ho5⟩; have HO5 := Lib.hid (HO.out.trans (HO2.out.trans (HO4.out.trans ho5))); have bx := RB.out.old (HO2.out.trans (HO4.out.trans ho5)); have x0 := bx.cell 0; have x1 := bx.cell 1; have x2 := bx.cell 2; have x3 := bx.cell 3; have x4 := bx.cell 4; have x5 := bx.cell 5; have x6 := bx.cell 6; have f0 := bx.frozen 0; have f1 := bx.frozen 1; have f2 := bx.frozen 2; have f3 := bx.frozen 3; have f4 := bx.frozen 4; have f5 := bx.frozen 5; have f6 := bx.frozen 6; have hbl := bx.lt; clear ho5 bx)))
  refine bodyPost_ret (v := .agg #[.int .i64 0, .int .i64 0, .string ⟨#[]⟩, .slice none 0 0, .slice none 0 0, .slice none 0 0, .int .i64 1]) (by simp [results, Tryd.results21, go_sem, x0, x1, x2, x3, x4, x5, x6]) rfl ?_
  have hs := RB.out.lt
  exact ⟨rfl, Old.chg_ HO5.out (seven_stores w5 (w.heap.size + 1) (.int .i64 0) (.int .i64 0) (.string ⟨#[]⟩) (.slice none 0 0) (.slice none 0 0) (.slice none 0 0) (.int .i64 1)) fun b hb => Nat.ne_of_lt (by omega)⟩


theorem text_toJ {v : V} (hk : v.kind = 4) : toJ v = .str v.text := by
  cases v
  simp only [V.kind] at hk
  subst hk
  simp [toJ, V.text]
theorem explode_text {v : V} (hg : Good v) (hk : v.kind = 4) (hs : v.text.size ≤ 4096) (w : World) (ok : Nat → Prop) (c0 c1 c2 c3 c4 c5 : Value) (hc : KV w ok v [c0, c1, c2, c3, c4, c5]) :
    Calls Tryd.prog 21 #[.agg #[c0, c1, c2, c3, c4, c5]] w (AltAns w (numsV (runes v.text))) := by
  have hl : (runes v.text).length ≤ 1048576 := by have := runesAt_len v.text v.text.size 0; unfold runes; omega
  have := explode_door mapFromGo_any hg (nums_jgood hl (runesAt_le v.text _ _)) (fun W ok x h => by
    rw [text_toJ hk] at h
    cases h
    exact zexplode_go v.text (by omega) W) w ok c0 c1 c2 c3 c4 c5 hc
  rw [nums_back] at this
  exact this
theorem explode_else {v : V} (hg : Good v) (hk : v.kind ≠ 4) (w : World) (ok : Nat → Prop) (c0 c1 c2 c3 c4 c5 : Value) (hc : KV w ok v [c0, c1, c2, c3, c4, c5]) :
    Calls Tryd.prog 21 #[.agg #[c0, c1, c2, c3, c4, c5]] w (ErrAns w) :=
  explode_err hg (fun W _ _ h => zexplode_bad h (fun _ e => hk (toJ_str e hg).1) W) w ok c0 c1 c2 c3 c4 c5 hc

theorem num_any (w : World) (n : Int) (h0 : 0 ≤ n) (h1 : n ≤ 1114111) : Calls Tryd.prog 24 #[.int .i64 n] w fun e w' => e = .returned (.agg #[.int .i64 3, .int .i64 (2 * n), .string ⟨#[]⟩, .slice none 0 0, .slice none 0 0, .slice none 0 0]) ∧ Old w w' := by
  go_enter Tryd.func24, Tryd.ntmps24
  go_wp2
  refine bodyPost_ret (v := .agg #[.int .i64 3, .int .i64 (2 * n), .string ⟨#[]⟩, .slice none 0 0, .slice none 0 0, .slice none 0 0]) (by simp [results, Tryd.results24, go_sem]) rfl ?_
  exact ⟨rfl, (Old.refl w).alloc _⟩
end Go.Proofs.YtpoanncombcemaaDoor
