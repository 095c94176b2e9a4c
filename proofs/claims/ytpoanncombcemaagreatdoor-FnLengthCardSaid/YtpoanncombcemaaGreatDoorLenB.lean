/-
  The length of a value, as the program has it; through the thin package's door.
  Conditions: the value is right.
-/
import Derived.Test.YtpoanncombcemaaGreatDoorLenA
namespace Go.Proofs.YtpoanncombcemaaGreatDoor
open Go.RowKit

theorem is_int_int (v : Value) (w : World) : (Instr.typeAssert (.iface 3 v) 20 3 true).run Tryz.prog w = .ok (.tuple #[v, .bool true]) w := by kernel_rfl
theorem is_flt_int (v : Value) (w : World) : (Instr.typeAssert (.iface 74 v) 20 3 true).run Tryz.prog w = .ok (.tuple #[.int .i64 0, .bool false]) w := by kernel_rfl
theorem is_flt_flt (v : Value) (w : World) : (Instr.typeAssert (.iface 74 v) 20 74 true).run Tryz.prog w = .ok (.tuple #[v, .bool true]) w := by kernel_rfl
theorem is_str_int (v : Value) (w : World) : (Instr.typeAssert (.iface 9 v) 20 3 true).run Tryz.prog w = .ok (.tuple #[.int .i64 0, .bool false]) w := by kernel_rfl
theorem is_str_flt (v : Value) (w : World) : (Instr.typeAssert (.iface 9 v) 20 74 true).run Tryz.prog w = .ok (.tuple #[.float .f64 0, .bool false]) w := by kernel_rfl
theorem is_str_big (v : Value) (w : World) : (Instr.typeAssert (.iface 9 v) 20 130 true).run Tryz.prog w = .ok (.tuple #[.pointer none, .bool false]) w := by kernel_rfl
theorem is_str_num (v : Value) (w : World) : (Instr.typeAssert (.iface 9 v) 20 137 true).run Tryz.prog w = .ok (.tuple #[.string ⟨#[]⟩, .bool false]) w := by kernel_rfl
theorem is_str_str (v : Value) (w : World) : (Instr.typeAssert (.iface 9 v) 20 9 true).run Tryz.prog w = .ok (.tuple #[v, .bool true]) w := by kernel_rfl
theorem is_arr_int (v : Value) (w : World) : (Instr.typeAssert (.iface 75 v) 20 3 true).run Tryz.prog w = .ok (.tuple #[.int .i64 0, .bool false]) w := by kernel_rfl
theorem is_arr_flt (v : Value) (w : World) : (Instr.typeAssert (.iface 75 v) 20 74 true).run Tryz.prog w = .ok (.tuple #[.float .f64 0, .bool false]) w := by kernel_rfl
theorem is_arr_big (v : Value) (w : World) : (Instr.typeAssert (.iface 75 v) 20 130 true).run Tryz.prog w = .ok (.tuple #[.pointer none, .bool false]) w := by kernel_rfl
theorem is_arr_num (v : Value) (w : World) : (Instr.typeAssert (.iface 75 v) 20 137 true).run Tryz.prog w = .ok (.tuple #[.string ⟨#[]⟩, .bool false]) w := by kernel_rfl
theorem is_arr_str (v : Value) (w : World) : (Instr.typeAssert (.iface 75 v) 20 9 true).run Tryz.prog w = .ok (.tuple #[.string ⟨#[]⟩, .bool false]) w := by kernel_rfl
theorem is_arr_arr (v : Value) (w : World) : (Instr.typeAssert (.iface 75 v) 20 75 true).run Tryz.prog w = .ok (.tuple #[v, .bool true]) w := by kernel_rfl
theorem is_obj_int (v : Value) (w : World) : (Instr.typeAssert (.iface 78 v) 20 3 true).run Tryz.prog w = .ok (.tuple #[.int .i64 0, .bool false]) w := by kernel_rfl
theorem is_obj_flt (v : Value) (w : World) : (Instr.typeAssert (.iface 78 v) 20 74 true).run Tryz.prog w = .ok (.tuple #[.float .f64 0, .bool false]) w := by kernel_rfl
theorem is_obj_big (v : Value) (w : World) : (Instr.typeAssert (.iface 78 v) 20 130 true).run Tryz.prog w = .ok (.tuple #[.pointer none, .bool false]) w := by kernel_rfl
theorem is_obj_num (v : Value) (w : World) : (Instr.typeAssert (.iface 78 v) 20 137 true).run Tryz.prog w = .ok (.tuple #[.string ⟨#[]⟩, .bool false]) w := by kernel_rfl
theorem is_obj_str (v : Value) (w : World) : (Instr.typeAssert (.iface 78 v) 20 9 true).run Tryz.prog w = .ok (.tuple #[.string ⟨#[]⟩, .bool false]) w := by kernel_rfl
theorem is_obj_arr (v : Value) (w : World) : (Instr.typeAssert (.iface 78 v) 20 75 true).run Tryz.prog w = .ok (.tuple #[.slice none 0 0, .bool false]) w := by kernel_rfl
theorem is_obj_obj (v : Value) (w : World) : (Instr.typeAssert (.iface 78 v) 20 78 true).run Tryz.prog w = .ok (.tuple #[v, .bool true]) w := by kernel_rfl
theorem is_bool_int (v : Value) (w : World) : (Instr.typeAssert (.iface 4 v) 20 3 true).run Tryz.prog w = .ok (.tuple #[.int .i64 0, .bool false]) w := by kernel_rfl
theorem is_bool_flt (v : Value) (w : World) : (Instr.typeAssert (.iface 4 v) 20 74 true).run Tryz.prog w = .ok (.tuple #[.float .f64 0, .bool false]) w := by kernel_rfl
theorem is_bool_big (v : Value) (w : World) : (Instr.typeAssert (.iface 4 v) 20 130 true).run Tryz.prog w = .ok (.tuple #[.pointer none, .bool false]) w := by kernel_rfl
theorem is_bool_num (v : Value) (w : World) : (Instr.typeAssert (.iface 4 v) 20 137 true).run Tryz.prog w = .ok (.tuple #[.string ⟨#[]⟩, .bool false]) w := by kernel_rfl
theorem is_bool_str (v : Value) (w : World) : (Instr.typeAssert (.iface 4 v) 20 9 true).run Tryz.prog w = .ok (.tuple #[.string ⟨#[]⟩, .bool false]) w := by kernel_rfl
theorem is_bool_arr (v : Value) (w : World) : (Instr.typeAssert (.iface 4 v) 20 75 true).run Tryz.prog w = .ok (.tuple #[.slice none 0 0, .bool false]) w := by kernel_rfl
theorem is_bool_obj (v : Value) (w : World) : (Instr.typeAssert (.iface 4 v) 20 78 true).run Tryz.prog w = .ok (.tuple #[.map none, .bool false]) w := by kernel_rfl

/-- The length, as the program has it. -/
def lenJ : J → J
  | .nil => .int 0
  | .bool b => .bool b
  | .int n => .int (n.natAbs : Nat)
  | .flt h => .flt (h.natAbs : Nat)
  | .str s => .int (points s : Nat)
  | .arr l => .int (l.length : Nat)
  | .obj ks _ => .int (ks.length : Nat)

set_option maxHeartbeats 2000000 in
set_option maxRecDepth 100000 in
theorem length_go {j : J} (hj : JGood j) (hb : ∀ b, j ≠ .bool b) (hs : ∀ s, j = .str s → s.size ≤ 2147483647) (w : World) (ok : Nat → Prop) (x : Value) (h : KJ w ok j x) : Calls Tryz.prog 71 #[x] w (GoAns w (lenJ j)) := by
  cases h with
  | nil =>
    go_enter Tryz.func71, Tryz.ntmps71
    go_wp2
    go_ret
    exact ⟨_, rfl, .int 0, Old.refl w⟩
  | bool b => exact absurd rfl (hb b)
  | int n =>
    clear hb hs
    have t0 := is_int_int
    cases hj with
    | int _ hn =>
    obtain ⟨h1, h2⟩ := hn
    by_cases h0 : 0 ≤ n
    · go_enter Tryz.func71, Tryz.ntmps71
      go_wp2
      go_ret
      refine ⟨_, rfl, ?_, Old.refl w⟩
      have e : n = (n.natAbs : Nat) := by omega
      show KJ w _ (.int (n.natAbs : Nat)) _
      rw [← e]
      exact .int n
    · go_enter Tryz.func71, Tryz.ntmps71
      go_wp2_with (go_at_call 117; go_must (refine (negate_any ⟨h1, by omega⟩ _).mono ?_; rintro e w2 ⟨rfl, rfl⟩))
      go_ret
      refine ⟨_, rfl, ?_, Old.refl _⟩
      have e : -n = (n.natAbs : Nat) := by omega
      show KJ _ _ (.int (n.natAbs : Nat)) _
      rw [← e]
      exact .int (-n)
  | flt h =>
    clear hb hs
    have t0 := is_flt_int
    have t1 := is_flt_flt
    cases hj with
    | flt _ ho hh =>
    have h0 : h ≠ 0 := by omega
    have H0 := Lib.hid h0
    have HH := Lib.hid hh
    clear ho h0 hh
    go_enter Tryz.func71, Tryz.ntmps71
    go_wp2_with (go_at_call 118; go_must (refine (abs_any H0.out HH.out _).mono ?_; rintro e w2 ⟨rfl, rfl⟩))
    go_ret
    exact ⟨_, rfl, .flt _, Old.refl _⟩
  | str s =>
    have hsz := hs s rfl
    obtain ⟨c, w1, hc, ho⟩ := run_runes s hsz w
    have hp := points_le s
    obtain ⟨p, hpe⟩ : ∃ p, p = points s := ⟨_, rfl⟩
    rw [← hpe] at hc hp
    have HP := Lib.hid hpe
    have HO := Lib.hid ho
    clear hb hs hj hpe ho
    have t0 := is_str_int
    have t1 := is_str_flt
    have t2 := is_str_big
    have t3 := is_str_num
    have t4 := is_str_str
    go_enter Tryz.func71, Tryz.ntmps71
    go_wp2
    go_ret
    refine ⟨_, rfl, ?_, HO.out⟩
    show KJ _ _ (.int (points s : Nat)) _
    rw [← HP.out]
    exact .int _
  | arr l v X hsl hr =>
    cases hj with
    | arr _ hl g =>
    obtain ⟨A, c, rfl, _⟩ := hsl.len
    clear hb hs hsl hr g
    have t0 := is_arr_int
    have t1 := is_arr_flt
    have t2 := is_arr_big
    have t3 := is_arr_num
    have t4 := is_arr_str
    have t5 := is_arr_arr
    go_enter Tryz.func71, Tryz.ntmps71
    go_wp2
    go_ret
    exact ⟨_, rfl, .int _, Old.refl w⟩
  | obj ks vs b xs hbk hm hx hr =>
    cases hj with
    | obj _ _ kv hv hks hkt g =>
    obtain ⟨n, hown, hn⟩ := hm
    have hkx : ks.length = xs.length := by omega
    have hlen := fun ty => hown.len Tryz.underlying78 ty
    rw [size_mapD ks xs hkx] at hlen
    have hkl : ks.length ≤ 1048576 := by omega
    clear hb hs hr g hks hkt hown hn hx hkx kv hv
    have t0 := is_obj_int
    have t1 := is_obj_flt
    have t2 := is_obj_big
    have t3 := is_obj_num
    have t4 := is_obj_str
    have t5 := is_obj_arr
    have t6 := is_obj_obj
    go_enter Tryz.func71, Tryz.ntmps71
    go_wp2
    go_ret
    exact ⟨_, rfl, .int _, Old.refl w⟩
set_option maxHeartbeats 2000000 in
set_option maxRecDepth 100000 in
theorem length_bad (b : Bool) (w : World) : Calls Tryz.prog 71 #[.iface 4 (.bool b)] w (GoErr w) := by
  have t0 := is_bool_int
  have t1 := is_bool_flt
  have t2 := is_bool_big
  have t3 := is_bool_num
  have t4 := is_bool_str
  have t5 := is_bool_arr
  have t6 := is_bool_obj
  go_enter Tryz.func71, Tryz.ntmps71
  go_wp2
  go_ret
  exact ⟨_, rfl, by first | exact (Old.refl w).alloc _ | exact ((Old.refl w).alloc _).drew⟩
theorem zlength_go {j : J} (hj : JGood j) (hb : ∀ b, j ≠ .bool b) (hs : ∀ s, j = .str s → s.size ≤ 2147483647) (w : World) (ok : Nat → Prop) (x : Value) (h : KJ w ok j x) : Calls Tryz.prog 35 #[x] w (GoAns w (lenJ j)) := by
  have H := Lib.hid (length_go hj hb hs w ok x h)
  clear hj hb hs h
  go_enter Tryz.func35, Tryz.ntmps35
  go_wp2_with (go_at_call 71; go_must (refine H.out.mono ?_; rintro e w2 ⟨y, rfl, hy, ho⟩; have HY := Lib.hid hy; have HO := Lib.hid ho; clear hy ho))
  go_ret
  exact ⟨_, rfl, HY.out, HO.out⟩
theorem zlength_bad (b : Bool) (w : World) : Calls Tryz.prog 35 #[.iface 4 (.bool b)] w (GoErr w) := by
  have H := Lib.hid (length_bad b w)
  go_enter Tryz.func35, Tryz.ntmps35
  go_wp2_with (go_at_call 71; go_must (refine H.out.mono ?_; rintro e w2 ⟨y, rfl, ho⟩; have HO := Lib.hid ho; clear ho))
  go_ret
  exact ⟨_, rfl, HO.out⟩

set_option maxHeartbeats 4000000 in
set_option maxRecDepth 100000 in
theorem length_door (hm : FromsM) {v : V} (hg : Good v) {j : J} (hj : JGood j) (hz : ∀ (W : World) (ok : Nat → Prop) (x : Value), KJ W ok (toJ v) x → Calls Tryz.prog 35 #[x] W (GoAns W j)) (w : World) (ok : Nat → Prop) (c0 c1 c2 c3 c4 c5 : Value) (hc : KV w ok v [c0, c1, c2, c3, c4, c5]) :
    Calls Tryz.prog 13 #[.agg #[c0, c1, c2, c3, c4, c5]] w (AltAns w (ofJ j)) := by
  have HFR := Lib.hid (fromGo_any hm hj)
  have TA := Lib.hid (toGo_any hg)
  have C := Lib.hid hc
  have HZ := Lib.hid hz
  obtain ⟨A1, n1, m1, A2, n2, m2, A3, n3, m3, rfl, rfl, rfl, rfl, rfl, rfl⟩ := shape hc
  generalize v.kind = ka at *
  generalize v.half = fa at *
  generalize v.text = ta at *
  have ho := ((Old.refl w).alloc (.cells #[.int .i64 ka, .int .i64 fa, .string ta, .slice A1 n1 m1, .slice A2 n2 m2, .slice A3 n3 m3] 27)).alloc (.cells #[.int .i64 0, .int .i64 0, .string ⟨#[]⟩, .slice none 0 0, .slice none 0 0, .slice none 0 0, .int .i64 0] 34)
  have HC1 := Lib.hid (TA.out _ ok _ _ _ _ _ _ (C.out.old ho))
  have HO := Lib.hid ho
  clear hc hm ho hz hg hj
  have RB := Lib.hid (show Blk ((w.alloc (.cells #[.int .i64 ka, .int .i64 fa, .string ta, .slice A1 n1 m1, .slice A2 n2 m2, .slice A3 n3 m3] 27)).alloc (.cells #[.int .i64 0, .int .i64 0, .string ⟨#[]⟩, .slice none 0 0, .slice none 0 0, .slice none 0 0, .int .i64 0] 34)) (w.heap.size + 1) #[.int .i64 0, .int .i64 0, .string ⟨#[]⟩, .slice none 0 0, .slice none 0 0, .slice none 0 0, .int .i64 0] 34 by
    have hb := Blk.new (w.alloc (.cells #[.int .i64 ka, .int .i64 fa, .string ta, .slice A1 n1 m1, .slice A2 n2 m2, .slice A3 n3 m3] 27)) #[.int .i64 0, .int .i64 0, .string ⟨#[]⟩, .slice none 0 0, .slice none 0 0, .slice none 0 0, .int .i64 0] 34
    rw [show (w.alloc (.cells #[.int .i64 ka, .int .i64 fa, .string ta, .slice A1 n1 m1, .slice A2 n2 m2, .slice A3 n3 m3] 27)).heap.size = w.heap.size + 1 by simp] at hb
    exact hb)
  obtain ⟨ke, hke⟩ : ∃ x, x = (ofJ j).kind := ⟨_, rfl⟩
  obtain ⟨fe, hfe⟩ : ∃ x, x = (ofJ j).half := ⟨_, rfl⟩
  obtain ⟨te, hte⟩ : ∃ x, x = (ofJ j).text := ⟨_, rfl⟩
  have KE := Lib.hid hke
  have FE := Lib.hid hfe
  have TE := Lib.hid hte
  clear hke hfe hte
  go_enter Tryz.func13, Tryz.ntmps13
  go_wp2_with (first
    | (go_at_call 31; go_must (refine HC1.out.mono ?_; rintro e w2 ⟨x, rfl, hx, ho2⟩; have HX := Lib.hid hx; have HO2 := Lib.hid ho2; clear hx ho2))
    | (go_at_call 35; go_must (refine (HZ.out _ _ _ HX.out).mono ?_; rintro e w4 ⟨y, rfl, hy, ho4⟩; have HY := Lib.hid hy; have HO4 := Lib.hid ho4; clear hy ho4))
    | (go_at_call 32; go_must (refine (result_any HFR.out _ (fun _ => True) _ HY.out).mono ?_; rintro e w5 ⟨e0, e1, e2, e3, e4, e5, rfl, hv, ho5⟩; have HO5 := Lib.hid (HO.out.trans (HO2.out.trans (HO4.out.trans ho5))); have bx := RB.out.old (HO2.out.trans (HO4.out.trans ho5)); have x0 := bx.cell 0; have x1 := bx.cell 1; have x2 := bx.cell 2; have x3 := bx.cell 3; have x4 := bx.cell 4; have x5 := bx.cell 5; have x6 := bx.cell 6; have f0 := bx.frozen 0; have f1 := bx.frozen 1; have f2 := bx.frozen 2; have f3 := bx.frozen 3; have f4 := bx.frozen 4; have f5 := bx.frozen 5; have f6 := bx.frozen 6; have hbl := bx.lt; obtain ⟨E1, q1, r1, E2, q2, r2, E3, q3, r3, rfl, rfl, rfl, rfl, rfl, rfl⟩ := shape hv; rw [← KE.out, ← FE.out, ← TE.out] at hv ⊢; have HV := Lib.hid hv; clear hv ho5 bx)))
  refine bodyPost_ret (v := .agg #[.int .i64 ke, .int .i64 fe, .string te, .slice E1 q1 r1, .slice E2 q2 r2, .slice E3 q3 r3, .int .i64 0]) (by simp [results, Tryz.results13, go_sem, x0, x1, x2, x3, x4, x5, x6]) rfl ?_
  have hc := seven_stores w5 (w.heap.size + 1) (.int .i64 ke) (.int .i64 fe) (.string te) (.slice E1 q1 r1) (.slice E2 q2 r2) (.slice E3 q3 r3) (.int .i64 0)
  have hs := RB.out.lt
  have hsz := (HO2.out.trans HO4.out).size
  have hcl : ∀ b : Nat, w4.heap.size ≤ b → b ≠ w.heap.size + 1 ∧ w.heap.size ≤ b := fun b hb => by omega
  exact ⟨_, _, _, _, _, _, rfl, (HV.out.chg (Chg.mono hc fun b _ hb => (hcl b hb).1)).mono fun b hb _ => (hcl b hb).2, Old.chg_ HO5.out hc fun b hb => Nat.ne_of_lt (by omega)⟩

set_option maxHeartbeats 4000000 in
set_option maxRecDepth 100000 in
theorem length_err {v : V} (hg : Good v) (hz : ∀ (W : World) (ok : Nat → Prop) (x : Value), KJ W ok (toJ v) x → Calls Tryz.prog 35 #[x] W (GoErr W)) (w : World) (ok : Nat → Prop) (c0 c1 c2 c3 c4 c5 : Value) (hc : KV w ok v [c0, c1, c2, c3, c4, c5]) :
    Calls Tryz.prog 13 #[.agg #[c0, c1, c2, c3, c4, c5]] w (ErrAns w) := by
  have TA := Lib.hid (toGo_any hg)
  have C := Lib.hid hc
  have HZ := Lib.hid hz
  obtain ⟨A1, n1, m1, A2, n2, m2, A3, n3, m3, rfl, rfl, rfl, rfl, rfl, rfl⟩ := shape hc
  generalize v.kind = ka at *
  generalize v.half = fa at *
  generalize v.text = ta at *
  have ho := ((Old.refl w).alloc (.cells #[.int .i64 ka, .int .i64 fa, .string ta, .slice A1 n1 m1, .slice A2 n2 m2, .slice A3 n3 m3] 27)).alloc (.cells #[.int .i64 0, .int .i64 0, .string ⟨#[]⟩, .slice none 0 0, .slice none 0 0, .slice none 0 0, .int .i64 0] 34)
  have HC1 := Lib.hid (TA.out _ ok _ _ _ _ _ _ (C.out.old ho))
  have HO := Lib.hid ho
  clear hc ho hz hg
  have RB := Lib.hid (show Blk ((w.alloc (.cells #[.int .i64 ka, .int .i64 fa, .string ta, .slice A1 n1 m1, .slice A2 n2 m2, .slice A3 n3 m3] 27)).alloc (.cells #[.int .i64 0, .int .i64 0, .string ⟨#[]⟩, .slice none 0 0, .slice none 0 0, .slice none 0 0, .int .i64 0] 34)) (w.heap.size + 1) #[.int .i64 0, .int .i64 0, .string ⟨#[]⟩, .slice none 0 0, .slice none 0 0, .slice none 0 0, .int .i64 0] 34 by
    have hb := Blk.new (w.alloc (.cells #[.int .i64 ka, .int .i64 fa, .string ta, .slice A1 n1 m1, .slice A2 n2 m2, .slice A3 n3 m3] 27)) #[.int .i64 0, .int .i64 0, .string ⟨#[]⟩, .slice none 0 0, .slice none 0 0, .slice none 0 0, .int .i64 0] 34
    rw [show (w.alloc (.cells #[.int .i64 ka, .int .i64 fa, .string ta, .slice A1 n1 m1, .slice A2 n2 m2, .slice A3 n3 m3] 27)).heap.size = w.heap.size + 1 by simp] at hb
    exact hb)
  go_enter Tryz.func13, Tryz.ntmps13
  go_wp2_with (first
    | (go_at_call 31; go_must (refine HC1.out.mono ?_; rintro e w2 ⟨x, rfl, hx, ho2⟩; have HX := Lib.hid hx; have HO2 := Lib.hid ho2; clear hx ho2))
    | (go_at_call 35; go_must (refine (HZ.out _ _ _ HX.out).mono ?_; rintro e w4 ⟨y, rfl, ho4⟩; have HO4 := Lib.hid ho4; clear ho4))
    | (go_at_call 32; go_must (refine (result_err _ _).mono ?_; rintro e w5 ⟨rfl, ho5⟩; have HO5 := Lib.hid (HO.out.trans (HO2.out.trans (HO4.out.trans ho5))); have bx := RB.out.old (HO2.out.trans (HO4.out.trans ho5)); have x0 := bx.cell 0; have x1 := bx.cell 1; have x2 := bx.cell 2; have x3 := bx.cell 3; have x4 := bx.cell 4; have x5 := bx.cell 5; have x6 := bx.cell 6; have f0 := bx.frozen 0; have f1 := bx.frozen 1; have f2 := bx.frozen 2; have f3 := bx.frozen 3; have f4 := bx.frozen 4; have f5 := bx.frozen 5; have f6 := bx.frozen 6; have hbl := bx.lt; clear ho5 bx)))
  refine bodyPost_ret (v := .agg #[.int .i64 0, .int .i64 0, .string ⟨#[]⟩, .slice none 0 0, .slice none 0 0, .slice none 0 0, .int .i64 1]) (by simp [results, Tryz.results13, go_sem, x0, x1, x2, x3, x4, x5, x6]) rfl ?_
  have hs := RB.out.lt
  exact ⟨rfl, Old.chg_ HO5.out (seven_stores w5 (w.heap.size + 1) (.int .i64 0) (.int .i64 0) (.string ⟨#[]⟩) (.slice none 0 0) (.slice none 0 0) (.slice none 0 0) (.int .i64 1)) fun b hb => Nat.ne_of_lt (by omega)⟩


theorem len_back {v : V} (hg : Good v) (h1 : v.kind ≠ 1) (h2 : v.kind ≠ 2) (ht : v.text.size ≤ 2147483647) : ofJ (lenJ (toJ v)) = lenV v ∧ JGood (lenJ (toJ v)) ∧ (∀ b, toJ v ≠ .bool b) ∧ (∀ s, toJ v = .str s → s.size ≤ 2147483647) ∧ Good (lenV v) := by
  cases hg with
  | mk k h t l ks vs k0 k6 hk tk lk kk kv hh ht' hl hv hks hkt gl gv =>
  unfold HalfOk at hh
  have hp := points_le t
  simp only [V.text] at ht
  simp only [V.kind] at h1 h2
  have hln := toJs_map l
  have leaf : ∀ m : Int, 0 ≤ m → m ≤ 18014398509481984 → (m % 2 = 0 ∨ m < 9007199254740992) → Good (.mk 3 m nilS [] [] []) := fun m m0 m1 m2 =>
    .mk 3 m nilS [] [] [] (by decide) (by decide) (.inl rfl) (.inr rfl) (.inr rfl) (.inr rfl) rfl ⟨by omega, by omega, by omega⟩ ⟨by decide, by decide⟩ (by simp) (by simp) List.Pairwise.nil (fun _ h => by cases h) (fun _ h => by cases h) (fun _ h => by cases h)
  rcases (show k = 0 ∨ k = 3 ∨ k = 4 ∨ k = 5 ∨ k = 6 by omega) with rfl | rfl | rfl | rfl | rfl
  · have e1 : l = [] := by simpa using lk
    have e2 : ks = [] := by simpa using kk
    have e3 : vs = [] := List.eq_nil_of_length_eq_zero (by rw [← kv, e2]; rfl)
    subst e1 e2 e3
    refine ⟨by simp [toJ, lenJ, ofJ, lenV, lenH], by simp [toJ, lenJ]; exact .int _ (by omega), by simp [toJ], by simp [toJ], ?_⟩
    exact leaf _ (by simp [lenH]) (by simp [lenH]) (by simp [lenH])
  · by_cases he : h % 2 = 0
    · have e : (2 : Int) * ((h / 2).natAbs : Nat) = (h.natAbs : Nat) := by omega
      refine ⟨by simp only [toJ, he]; simp [lenJ, ofJ, lenV, lenH]; exact e, by simp [toJ, he, lenJ]; exact .int _ (by omega), by simp [toJ, he], by simp [toJ, he], ?_⟩
      exact leaf _ (by simp [lenH]) (by simp [lenH]; omega) (by simp [lenH]; omega)
    · refine ⟨by simp only [toJ, he]; simp [lenJ, ofJ, lenV, lenH], by simp [toJ, he, lenJ]; exact .flt _ (by omega) (by omega), by simp [toJ, he], by simp [toJ, he], ?_⟩
      exact leaf _ (by simp [lenH]) (by simp [lenH]; omega) (by simp [lenH]; omega)
  · refine ⟨by simp [toJ, lenJ, ofJ, lenV, lenH], by simp [toJ, lenJ]; exact .int _ (by omega), by simp [toJ], by simp [toJ]; exact ht, ?_⟩
    exact leaf _ (by simp [lenH]; omega) (by simp [lenH]; omega) (by simp [lenH])
  · have e2 : ks = [] := by simpa using kk
    have e3 : vs = [] := List.eq_nil_of_length_eq_zero (by rw [← kv, e2]; rfl)
    subst e2 e3
    refine ⟨by simp [toJ, lenJ, ofJ, lenV, lenH, toJs_map], by simp [toJ, lenJ, toJs_map]; exact .int _ (by omega), by simp [toJ], by simp [toJ], ?_⟩
    exact leaf _ (by simp [lenH]; omega) (by simp [lenH]; omega) (by simp [lenH])
  · have e1 : l = [] := by simpa using lk
    subst e1
    refine ⟨by simp [toJ, lenJ, ofJ, lenV, lenH, kv], by simp [toJ, lenJ]; exact .int _ (by omega), by simp [toJ], by simp [toJ], ?_⟩
    exact leaf _ (by simp [lenH]; omega) (by simp [lenH]; omega) (by simp [lenH])
theorem length_fine {v : V} (hg : Good v) (h1 : v.kind ≠ 1) (h2 : v.kind ≠ 2) (ht : v.text.size ≤ 2147483647) (w : World) (ok : Nat → Prop) (c0 c1 c2 c3 c4 c5 : Value) (hc : KV w ok v [c0, c1, c2, c3, c4, c5]) :
    Calls Tryz.prog 13 #[.agg #[c0, c1, c2, c3, c4, c5]] w (AltAns w (lenV v)) := by
  obtain ⟨e, hj, hb, hs, _⟩ := len_back hg h1 h2 ht
  have := length_door mapFromGo_any hg hj (fun W ok x h => zlength_go (toJ_good hg) hb hs W ok x h) w ok c0 c1 c2 c3 c4 c5 hc
  rw [e] at this
  exact this
theorem bool_toJ {v : V} (h : v.kind = 1 ∨ v.kind = 2) : ∃ b, toJ v = .bool b := by
  cases v
  simp only [V.kind] at h
  rcases h with rfl | rfl
  · exact ⟨false, by simp [toJ]⟩
  · exact ⟨true, by simp [toJ]⟩
theorem length_wrong {v : V} (hg : Good v) (h : v.kind = 1 ∨ v.kind = 2) (w : World) (ok : Nat → Prop) (c0 c1 c2 c3 c4 c5 : Value) (hc : KV w ok v [c0, c1, c2, c3, c4, c5]) :
    Calls Tryz.prog 13 #[.agg #[c0, c1, c2, c3, c4, c5]] w (ErrAns w) :=
  length_err hg (fun W ok x hx => by
    obtain ⟨b, hb⟩ := bool_toJ h
    rw [hb] at hx
    cases hx
    exact zlength_bad b W) w ok c0 c1 c2 c3 c4 c5 hc
end Go.Proofs.YtpoanncombcemaaGreatDoor
