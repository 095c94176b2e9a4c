/-
  a // b, on values of the thin package.
  Conditions: the values are right.
-/
import Derived.Test.YtpoanncombcemaaDoorAlt
namespace Go.Proofs.YtpoanncombcemaaDoor
open Go.RowKit

theorem altJ_kj {w : World} {ok : Nat → Prop} {a b : J} {x y : Value} (hx : KJ w ok a x) (hy : KJ w ok b y) : KJ w ok (altJ a a b) (altJ a x y) := by
  cases hx with
  | bool b => cases b <;> first | exact hy | exact .bool _
  | nil => exact hy
  | int n => exact .int n
  | flt n => exact .flt n
  | str n => exact .str n
  | arr l v X s r => exact .arr l v X s r
  | obj ks vs b xs hb hm hx r => exact .obj ks vs b xs hb hm hx r
theorem altJ_good {a b : J} (ha : JGood a) (hb : JGood b) : JGood (altJ a a b) := by
  cases a with
  | nil => exact hb
  | bool c => cases c <;> first | exact hb | exact ha
  | int n => exact ha
  | flt n => exact ha
  | str n => exact ha
  | arr l => exact ha
  | obj ks vs => exact ha
theorem altJ_of {a b : V} (ha : Good a) (hb : Good b) : ofJ (altJ (toJ a) (toJ a) (toJ b)) = if a.kind ≠ 0 ∧ a.kind ≠ 1 then a else b := by
  have ea := ofJ_toJ ha
  have eb := ofJ_toJ hb
  cases ha with
  | mk k h t l ks vs k0 k6 hk tk lk kk kv hh ht hl hv hks hkt gl gv =>
    simp only [V.kind]
    rcases (show k = 0 ∨ k = 1 ∨ k = 2 ∨ k = 3 ∨ k = 4 ∨ k = 5 ∨ k = 6 by omega) with rfl | rfl | rfl | rfl | rfl | rfl | rfl
    · simpa [toJ, altJ] using eb
    · simpa [toJ, altJ] using eb
    · simpa [toJ, altJ] using ea
    · by_cases he : h % 2 = 0
      · simpa [toJ, altJ, he] using ea
      · simpa [toJ, altJ, he] using ea
    · simpa [toJ, altJ] using ea
    · simpa [toJ, altJ] using ea
    · simpa [toJ, altJ] using ea

def AltAns (w : World) (v : V) (e : Ending) (w' : World) : Prop :=
  ∃ c0 c1 c2 c3 c4 c5, e = .returned (.agg #[c0, c1, c2, c3, c4, c5, .int .i64 0]) ∧ KV w' (fun b => w.heap.size ≤ b) v [c0, c1, c2, c3, c4, c5] ∧ Old w w'
set_option maxHeartbeats 4000000 in
set_option maxRecDepth 100000 in
theorem alternative_any (hm : FromsM) {a b : V} (ha : Good a) (hb : Good b) (w : World) (ok : Nat → Prop) (c0 c1 c2 c3 c4 c5 d0 d1 d2 d3 d4 d5 : Value) (hc : KV w ok a [c0, c1, c2, c3, c4, c5]) (hd : KV w ok b [d0, d1, d2, d3, d4, d5]) :
    Calls Tryd.prog 12 #[.agg #[c0, c1, c2, c3, c4, c5], .agg #[d0, d1, d2, d3, d4, d5]] w (AltAns w (if a.kind ≠ 0 ∧ a.kind ≠ 1 then a else b)) := by
  have hres := altJ_of ha hb
  have HFR := Lib.hid (fromGo_any hm (altJ_good (toJ_good ha) (toJ_good hb)))
  have TA := Lib.hid (toGo_any ha)
  have TB := Lib.hid (toGo_any hb)
  have C := Lib.hid hc
  have D := Lib.hid hd
  obtain ⟨A1, n1, m1, A2, n2, m2, A3, n3, m3, rfl, rfl, rfl, rfl, rfl, rfl⟩ := shape hc
  obtain ⟨B1, l1, p1, B2, l2, p2, B3, l3, p3, rfl, rfl, rfl, rfl, rfl, rfl⟩ := shape hd
  clear hc hd hm
  rw [← hres]
  have ho := (((Old.refl w).alloc (.cells #[.int .i64 a.kind, .int .i64 a.half, .string a.text, .slice A1 n1 m1, .slice A2 n2 m2, .slice A3 n3 m3] 26)).alloc (.cells #[.int .i64 b.kind, .int .i64 b.half, .string b.text, .slice B1 l1 p1, .slice B2 l2 p2, .slice B3 l3 p3] 26)).alloc (.cells #[.int .i64 0, .int .i64 0, .string ⟨#[]⟩, .slice none 0 0, .slice none 0 0, .slice none 0 0, .int .i64 0] 31)
  have HC1 := Lib.hid (TA.out _ ok _ _ _ _ _ _ (C.out.old ho))
  have HO := Lib.hid ho
  clear hres ho
  generalize a.kind = ka at *
  generalize a.half = fa at *
  generalize a.text = ta at *
  generalize b.kind = kb at *
  generalize b.half = fb at *
  generalize b.text = tb at *
  have BB := Lib.hid (show Blk (((w.alloc (.cells #[.int .i64 ka, .int .i64 fa, .string ta, .slice A1 n1 m1, .slice A2 n2 m2, .slice A3 n3 m3] 26)).alloc (.cells #[.int .i64 kb, .int .i64 fb, .string tb, .slice B1 l1 p1, .slice B2 l2 p2, .slice B3 l3 p3] 26)).alloc (.cells #[.int .i64 0, .int .i64 0, .string ⟨#[]⟩, .slice none 0 0, .slice none 0 0, .slice none 0 0, .int .i64 0] 31)) (w.heap.size + 1) #[.int .i64 kb, .int .i64 fb, .string tb, .slice B1 l1 p1, .slice B2 l2 p2, .slice B3 l3 p3] 26 by
    have hb := (Blk.new (w.alloc (.cells #[.int .i64 ka, .int .i64 fa, .string ta, .slice A1 n1 m1, .slice A2 n2 m2, .slice A3 n3 m3] 26)) #[.int .i64 kb, .int .i64 fb, .string tb, .slice B1 l1 p1, .slice B2 l2 p2, .slice B3 l3 p3] 26).alloc (.cells #[.int .i64 0, .int .i64 0, .string ⟨#[]⟩, .slice none 0 0, .slice none 0 0, .slice none 0 0, .int .i64 0] 31)
    rw [show (w.alloc (.cells #[.int .i64 ka, .int .i64 fa, .string ta, .slice A1 n1 m1, .slice A2 n2 m2, .slice A3 n3 m3] 26)).heap.size = w.heap.size + 1 by simp] at hb
    exact hb)
  have RB := Lib.hid (show Blk (((w.alloc (.cells #[.int .i64 ka, .int .i64 fa, .string ta, .slice A1 n1 m1, .slice A2 n2 m2, .slice A3 n3 m3] 26)).alloc (.cells #[.int .i64 kb, .int .i64 fb, .string tb, .slice B1 l1 p1, .slice B2 l2 p2, .slice B3 l3 p3] 26)).alloc (.cells #[.int .i64 0, .int .i64 0, .string ⟨#[]⟩, .slice none 0 0, .slice none 0 0, .slice none 0 0, .int .i64 0] 31)) (w.heap.size + 2) #[.int .i64 0, .int .i64 0, .string ⟨#[]⟩, .slice none 0 0, .slice none 0 0, .slice none 0 0, .int .i64 0] 31 by
    have hb := Blk.new ((w.alloc (.cells #[.int .i64 ka, .int .i64 fa, .string ta, .slice A1 n1 m1, .slice A2 n2 m2, .slice A3 n3 m3] 26)).alloc (.cells #[.int .i64 kb, .int .i64 fb, .string tb, .slice B1 l1 p1, .slice B2 l2 p2, .slice B3 l3 p3] 26)) #[.int .i64 0, .int .i64 0, .string ⟨#[]⟩, .slice none 0 0, .slice none 0 0, .slice none 0 0, .int .i64 0] 31
    rw [show ((w.alloc (.cells #[.int .i64 ka, .int .i64 fa, .string ta, .slice A1 n1 m1, .slice A2 n2 m2, .slice A3 n3 m3] 26)).alloc (.cells #[.int .i64 kb, .int .i64 fb, .string tb, .slice B1 l1 p1, .slice B2 l2 p2, .slice B3 l3 p3] 26)).heap.size = w.heap.size + 2 by simp] at hb
    exact hb)
  go_enter Tryd.func12, Tryd.ntmps12
  go_wp2_with (first
    | (go_at_call 31; have hq := HO2; clear hq; go_must (refine (TB.out _ ok _ _ _ _ _ _ (D.out.old (HO.out.trans HO2.out))).mono ?_; rintro e w3 ⟨y, rfl, hy, ho3⟩; have HY := Lib.hid hy; have HO3 := Lib.hid ho3; clear hy ho3))
    | (go_at_call 31; refine HC1.out.mono ?_; rintro e w2 ⟨x, rfl, hx, ho2⟩; have HX := Lib.hid hx; have HO2 := Lib.hid ho2; have by_ := BB.out.old ho2; have y0 := by_.cell 0; have y1 := by_.cell 1; have y2 := by_.cell 2; have y3 := by_.cell 3; have y4 := by_.cell 4; have y5 := by_.cell 5; have hbl2 := by_.lt; clear hx ho2 by_)
    | (go_at_call 33; go_must (refine (zalt_any (HX.out.old HO3.out) _ _).mono ?_; rintro e w4 ⟨rfl, ho4⟩; have HO4 := Lib.hid ho4; clear ho4))
    | (go_at_call 32; go_must (refine (result_any HFR.out _ (fun _ => True) _ (altJ_kj (((HX.out.mono fun _ _ _ => trivial).old HO3.out).old HO4.out) ((HY.out.mono fun _ _ _ => trivial).old HO4.out))).mono ?_; rintro e w5 ⟨e0, e1, e2, e3, e4, e5, rfl, hv, ho5⟩; have HO5 := Lib.hid (HO.out.trans (HO2.out.trans (HO3.out.trans (HO4.out.trans ho5)))); have HLO := Lib.hid (HO.out.trans (HO2.out.trans (HO3.out.trans HO4.out))); have bx := RB.out.old (HO2.out.trans (HO3.out.trans (HO4.out.trans ho5))); have x0 := bx.cell 0; have x1 := bx.cell 1; have x2 := bx.cell 2; have x3 := bx.cell 3; have x4 := bx.cell 4; have x5 := bx.cell 5; have x6 := bx.cell 6; have f0 := bx.frozen 0; have f1 := bx.frozen 1; have f2 := bx.frozen 2; have f3 := bx.frozen 3; have f4 := bx.frozen 4; have f5 := bx.frozen 5; have f6 := bx.frozen 6; have hbl := bx.lt; obtain ⟨E1, q1, r1, E2, q2, r2, E3, q3, r3, rfl, rfl, rfl, rfl, rfl, rfl⟩ := shape hv; have HV := Lib.hid hv; clear hv ho5 bx)))
  refine bodyPost_ret (v := .agg #[.int .i64 (ofJ (altJ (toJ a) (toJ a) (toJ b))).kind, .int .i64 (ofJ (altJ (toJ a) (toJ a) (toJ b))).half, .string (ofJ (altJ (toJ a) (toJ a) (toJ b))).text, .slice E1 q1 r1, .slice E2 q2 r2, .slice E3 q3 r3, .int .i64 0]) (by simp [results, Tryd.results12, go_sem, x0, x1, x2, x3, x4, x5, x6]) rfl ?_
  have hc := seven_stores w5 (w.heap.size + 2) (.int .i64 (ofJ (altJ (toJ a) (toJ a) (toJ b))).kind) (.int .i64 (ofJ (altJ (toJ a) (toJ a) (toJ b))).half) (.string (ofJ (altJ (toJ a) (toJ a) (toJ b))).text) (.slice E1 q1 r1) (.slice E2 q2 r2) (.slice E3 q3 r3) (.int .i64 0)
  have hs := RB.out.lt
  have hsz := (HO2.out.trans (HO3.out.trans HO4.out)).size
  have hcl : ∀ b : Nat, w4.heap.size ≤ b → b ≠ w.heap.size + 2 ∧ w.heap.size ≤ b := fun b hb => by omega
  exact ⟨_, _, _, _, _, _, rfl, (HV.out.chg (Chg.mono hc fun b _ hb => (hcl b hb).1)).mono fun b hb _ => (hcl b hb).2, Old.chg_ HO5.out hc fun b hb => Nat.ne_of_lt (by omega)⟩
end Go.Proofs.YtpoanncombcemaaDoor
