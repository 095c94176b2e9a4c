/-
  Two values are looked at: what the look shows.
  Conditions: none.
-/
import Derived.Test.YtpoanncombcemaaDoorSize
import Derived.Deep.DeepMust
namespace Go.Proofs.YtpoanncombcemaaDoor
open Go.RowKit

set_option maxHeartbeats 1000000 in
set_option maxRecDepth 100000 in
theorem fit_two {a b : V} (ha : Sized a) (hb : Sized b) (w : World) (ok : Nat → Prop) (c0 c1 c2 c3 c4 c5 d0 d1 d2 d3 d4 d5 : Value) (hc : KV w ok a [c0, c1, c2, c3, c4, c5]) (hd : KV w ok b [d0, d1, d2, d3, d4, d5]) (hT : Tabs w) :
    Calls Tryd.prog 9 #[.agg #[c0, c1, c2, c3, c4, c5], .agg #[d0, d1, d2, d3, d4, d5]] w (SizeAns w (Right a ∧ Right b)) := by
  have C := Lib.hid hc
  have D := Lib.hid hd
  obtain ⟨A1, n1, m1, A2, n2, m2, A3, n3, m3, rfl, rfl, rfl, rfl, rfl, rfl⟩ := shape hc
  obtain ⟨B1, l1, p1, B2, l2, p2, B3, l3, p3, rfl, rfl, rfl, rfl, rfl, rfl⟩ := shape hd
  clear hc hd
  generalize a.kind = ka at *
  generalize a.half = fa at *
  generalize a.text = ta at *
  generalize b.kind = kb at *
  generalize b.half = fb at *
  generalize b.text = tb at *
  have ho := ((Old.refl w).alloc (.cells #[.int .i64 ka, .int .i64 fa, .string ta, .slice A1 n1 m1, .slice A2 n2 m2, .slice A3 n3 m3] 26)).alloc (.cells #[.int .i64 kb, .int .i64 fb, .string tb, .slice B1 l1 p1, .slice B2 l2 p2, .slice B3 l3 p3] 26)
  have HC1 := Lib.hid (fit_any ha _ ok _ _ _ _ _ _ (C.out.old ho) (hT.old ho))
  have HT := Lib.hid hT
  have HB := Lib.hid hb
  have HO := Lib.hid ho
  have BB := Lib.hid (show Blk ((w.alloc (.cells #[.int .i64 ka, .int .i64 fa, .string ta, .slice A1 n1 m1, .slice A2 n2 m2, .slice A3 n3 m3] 26)).alloc (.cells #[.int .i64 kb, .int .i64 fb, .string tb, .slice B1 l1 p1, .slice B2 l2 p2, .slice B3 l3 p3] 26)) (w.heap.size + 1) #[.int .i64 kb, .int .i64 fb, .string tb, .slice B1 l1 p1, .slice B2 l2 p2, .slice B3 l3 p3] 26 by
    have hb := Blk.new (w.alloc (.cells #[.int .i64 ka, .int .i64 fa, .string ta, .slice A1 n1 m1, .slice A2 n2 m2, .slice A3 n3 m3] 26)) #[.int .i64 kb, .int .i64 fb, .string tb, .slice B1 l1 p1, .slice B2 l2 p2, .slice B3 l3 p3] 26
    rw [show (w.alloc (.cells #[.int .i64 ka, .int .i64 fa, .string ta, .slice A1 n1 m1, .slice A2 n2 m2, .slice A3 n3 m3] 26)).heap.size = w.heap.size + 1 by simp] at hb
    exact hb)
  clear ho hT hb ha
  go_enter Tryd.func9, Tryd.ntmps9
  go_wp2_with (first
    | (go_at_call 18; have hq := HO2; clear hq; go_must (refine (fit_any HB.out _ ok _ _ _ _ _ _ (D.out.old (HO.out.trans HO2.out)) (HT.out.old (HO.out.trans HO2.out))).mono ?_; rintro e w3 ⟨q3, rfl, ho3, hg3⟩; have HO3 := Lib.hid ho3; have HG3 := Lib.hid hg3; clear ho3 hg3))
    | (go_at_call 18; refine HC1.out.mono ?_; rintro e w2 ⟨q2, rfl, ho2, hg2⟩; have HO2 := Lib.hid ho2; have HG2 := Lib.hid hg2; have by_ := BB.out.old ho2; have y0 := by_.cell 0; have y1 := by_.cell 1; have y2 := by_.cell 2; have y3 := by_.cell 3; have y4 := by_.cell 4; have y5 := by_.cell 5; have hbl2 := by_.lt; clear ho2 hg2 by_; cases q2))
  all_goals go_ret
  all_goals first
    | exact ⟨_, rfl, HO.out.trans (HO2.out.trans HO3.out), fun h => ⟨HG2.out (by simp), HG3.out (by simpa using h)⟩⟩
    | exact ⟨_, rfl, HO.out.trans HO2.out, fun h => absurd h (by simp)⟩
end Go.Proofs.YtpoanncombcemaaDoor
