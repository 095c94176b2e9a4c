/-
  An answer is held against a value: where it is that value.
  Conditions: the value is right.
-/
import Derived.Test.YtpoanncombcemaaDoorSame
import Derived.Deep.DeepMust
namespace Go.Proofs.YtpoanncombcemaaDoor
open Go.RowKit

set_option maxHeartbeats 1000000 in
theorem told_any {v : V} (hg : Good v) (w : World) (ok1 ok2 : Nat → Prop) (c0 c1 c2 c3 c4 c5 d0 d1 d2 d3 d4 d5 : Value) (hc : KV w ok1 v [c0, c1, c2, c3, c4, c5]) (hd : KV w ok2 v [d0, d1, d2, d3, d4, d5]) :
    Calls Tryd.prog 30 #[.agg #[c0, c1, c2, c3, c4, c5, .int .i64 0], .agg #[d0, d1, d2, d3, d4, d5], .int .i64 0] w (TrueAns w) := by
  have C := Lib.hid hc
  have D := Lib.hid hd
  obtain ⟨A1, n1, m1, A2, n2, m2, A3, n3, m3, rfl, rfl, rfl, rfl, rfl, rfl⟩ := shape hc
  obtain ⟨B1, l1, p1, B2, l2, p2, B3, l3, p3, rfl, rfl, rfl, rfl, rfl, rfl⟩ := shape hd
  clear hc hd
  generalize hkd : v.kind = kd at *
  generalize hhf : v.half = hf at *
  generalize htx : v.text = tx at *
  clear hkd hhf htx
  have ho := ((Old.refl w).alloc (.cells #[.int .i64 kd, .int .i64 hf, .string tx, .slice A1 n1 m1, .slice A2 n2 m2, .slice A3 n3 m3, .int .i64 0] 31)).alloc (.cells #[.int .i64 kd, .int .i64 hf, .string tx, .slice B1 l1 p1, .slice B2 l2 p2, .slice B3 l3 p3] 26)
  have HC := Lib.hid (same_any hg _ ok1 ok2 _ _ _ _ _ _ _ _ _ _ _ _ (C.out.old ho) (D.out.old ho))
  have HO := Lib.hid ho
  clear ho
  go_enter Tryd.func30, Tryd.ntmps30
  go_wp2_with (go_at_call 39; go_must (refine HC.out.mono ?_; rintro e w2 ⟨rfl, ho2⟩; have HO2 := Lib.hid ho2; clear ho2))
  go_ret
  exact ⟨rfl, HO.out.trans HO2.out⟩

set_option maxHeartbeats 1000000 in
theorem given_any {v : V} (hg : Good v) (w : World) (ok1 ok2 : Nat → Prop) (c0 c1 c2 c3 c4 c5 d0 d1 d2 d3 d4 d5 : Value) (hc : KV w ok1 v [c0, c1, c2, c3, c4, c5]) (hd : KV w ok2 v [d0, d1, d2, d3, d4, d5]) :
    Calls Tryd.prog 11 #[.agg #[c0, c1, c2, c3, c4, c5, .int .i64 0], .agg #[d0, d1, d2, d3, d4, d5]] w (TrueAns w) := by
  have C := Lib.hid hc
  have D := Lib.hid hd
  obtain ⟨A1, n1, m1, A2, n2, m2, A3, n3, m3, rfl, rfl, rfl, rfl, rfl, rfl⟩ := shape hc
  obtain ⟨B1, l1, p1, B2, l2, p2, B3, l3, p3, rfl, rfl, rfl, rfl, rfl, rfl⟩ := shape hd
  clear hc hd
  generalize hkd : v.kind = kd at *
  generalize hhf : v.half = hf at *
  generalize htx : v.text = tx at *
  clear hkd hhf htx
  have ho := ((Old.refl w).alloc (.cells #[.int .i64 kd, .int .i64 hf, .string tx, .slice A1 n1 m1, .slice A2 n2 m2, .slice A3 n3 m3, .int .i64 0] 31)).alloc (.cells #[.int .i64 kd, .int .i64 hf, .string tx, .slice B1 l1 p1, .slice B2 l2 p2, .slice B3 l3 p3] 26)
  have HC := Lib.hid (told_any hg _ ok1 ok2 _ _ _ _ _ _ _ _ _ _ _ _ (C.out.old ho) (D.out.old ho))
  have HO := Lib.hid ho
  clear ho
  go_enter Tryd.func11, Tryd.ntmps11
  go_wp2_with (go_at_call 30; go_must (refine HC.out.mono ?_; rintro e w2 ⟨rfl, ho2⟩; have HO2 := Lib.hid ho2; clear ho2))
  go_ret
  exact ⟨rfl, HO.out.trans HO2.out⟩
end Go.Proofs.YtpoanncombcemaaDoor
