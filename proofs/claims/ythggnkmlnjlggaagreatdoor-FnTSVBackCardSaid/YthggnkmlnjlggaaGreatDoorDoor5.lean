/-
  The door of the tab format: the walks of funcToTSV, ZzTSV, fromGo and result at texts, FormatTSV.
  Conditions: none.
-/
import Derived.Test.YthggnkmlnjlggaaGreatDoorTsv
import Derived.Test.YthggnkmlnjlggaaGreatDoorFmtd
namespace Go.Proofs.YthggnkmlnjlggaaGreatDoor
open Go.RowKit

/-- What is no array is not written as a row. -/
def NoRow (w : World) (e : Ending) (w' : World) : Prop := (∃ a, e = .returned (.iface 96 (.pointer (some a)))) ∧ Old w w'
theorem not_arr {w : World} {ok : Nat → Prop} {j : J} {x : Value} (h : KJ w ok j x) (hj : ∀ l, j ≠ .arr l) (W : World) : (Instr.typeAssert x 20 59 true).run Tryz.prog W = .ok (.tuple #[.slice none 0 0, .bool false]) W := by
  cases h with
  | nil => kernel_rfl
  | bool b => kernel_rfl
  | int n => kernel_rfl
  | flt h => kernel_rfl
  | str s => kernel_rfl
  | arr l v X s r => exact absurd rfl (hj l)
  | obj ks vs b xs hb hm hx r => kernel_rfl
set_option maxHeartbeats 1000000 in
set_option maxRecDepth 100000 in
theorem join_no {j : J} (hj : ∀ l, j ≠ .arr l) (f : Value) (w : World) (ok : Nat → Prop) (x : Value) (h : KJ w ok j x) :
    Calls Tryz.prog 48 #[.string ⟨#[116, 115, 118]⟩, x, .string ⟨#[9]⟩, f] w (NoRow w) := by
  have ha := fun W => not_arr h hj W
  have hs := jshape h
  clear h hj
  rcases hs with rfl | ⟨xt, xv, rfl⟩
  all_goals
    go_enter Tryz.func48, Tryz.ntmps48
    go_wp2
    go_ret
    exact ⟨⟨_, rfl⟩, (Old.refl w).alloc _⟩
def PostFrom (Q : World → Ending → World → Prop) : Prop := ∀ a b e c, Old a b → Q b e c → Q a e c
theorem post_row (l : List J) : PostFrom (JAns l) := fun _ _ _ _ ho h => ⟨h.1, ho.trans h.2⟩
theorem post_no : PostFrom NoRow := fun _ _ _ _ ho h => ⟨h.1, ho.trans h.2⟩
set_option maxHeartbeats 1000000 in
set_option maxRecDepth 100000 in
theorem tsv_of (Q : World → Ending → World → Prop) (hQ : PostFrom Q) (hr : ∀ w e w', Q w e w' → ∃ t p, e = .returned (.iface t p)) (w : World) (x : Value) (hx : x = .nilIface ∨ ∃ t v, x = .iface t v)
    (hc : ∀ W ge, Old w W → Blk W ge escCells 9 → Calls Tryz.prog 48 #[.string ⟨#[116, 115, 118]⟩, x, .string ⟨#[9]⟩, .func (.func 50) #[.slice (some ⟨ge, 0, none⟩) 10 10] #[]] W (Q W)) :
    Calls Tryz.prog 34 #[x] w (Q w) := by
  have HO := Lib.hid (show Old w (w.alloc (.cells escCells 9)) from (Old.refl w).alloc _)
  have HC := Lib.hid (hc _ _ HO.out (Blk.new w escCells 9))
  have HQ := Lib.hid hQ
  have HR := Lib.hid hr
  clear hc hQ hr
  rcases hx with rfl | ⟨xt, xv, rfl⟩
  all_goals
    go_enter Tryz.func34, Tryz.ntmps34
    go_wp2_with (first
      | (go_at_call 49; go_must (refine (escaper_any _).mono ?_; rintro e w2 ⟨rfl, rfl⟩))
      | (go_at_call 48; go_must (refine HC.out.mono ?_; intro e w3 hq; have HQ3 := Lib.hid (HQ.out _ _ _ _ HO.out hq); obtain ⟨t3, p3, rfl⟩ := HR.out _ _ _ hq; clear hq)))
    exact HQ3.out
set_option maxHeartbeats 1000000 in
set_option maxRecDepth 100000 in
theorem zz_of (Q : World → Ending → World → Prop) (hr : ∀ w e w', Q w e w' → ∃ t p, e = .returned (.iface t p)) (w : World) (x : Value) (hx : x = .nilIface ∨ ∃ t v, x = .iface t v)
    (hc : Calls Tryz.prog 34 #[x] w (Q w)) : Calls Tryz.prog 19 #[x] w (Q w) := by
  have HC := Lib.hid hc
  have HR := Lib.hid hr
  clear hc hr
  rcases hx with rfl | ⟨xt, xv, rfl⟩
  all_goals
    go_enter Tryz.func19, Tryz.ntmps19
    go_wp2_with (go_at_call 34; go_must (refine HC.out.mono ?_; intro e w3 hq; have HQ3 := Lib.hid hq; obtain ⟨t3, p3, rfl⟩ := HR.out _ _ _ hq; clear hq))
    exact HQ3.out
end Go.Proofs.YthggnkmlnjlggaaGreatDoor
namespace Go.Proofs.YthggnkmlnjlggaaGreatDoor
open Go.RowKit

theorem as_str_bool (v : Value) (w : World) : (Instr.typeAssert (.iface 9 v) 20 4 true).run Tryz.prog w = .ok (.tuple #[.bool false, .bool false]) w := by kernel_rfl
theorem as_str_int (v : Value) (w : World) : (Instr.typeAssert (.iface 9 v) 20 3 true).run Tryz.prog w = .ok (.tuple #[.int .i64 0, .bool false]) w := by kernel_rfl
theorem as_str_flt (v : Value) (w : World) : (Instr.typeAssert (.iface 9 v) 20 58 true).run Tryz.prog w = .ok (.tuple #[.float .f64 0, .bool false]) w := by kernel_rfl
theorem as_str (v : Value) (w : World) : (Instr.typeAssert (.iface 9 v) 20 9 true).run Tryz.prog w = .ok (.tuple #[v, .bool true]) w := by kernel_rfl
theorem err_str (v : Value) (w : World) : (Instr.typeAssert (.iface 9 v) 20 66 true).run Tryz.prog w = .ok (.tuple #[.nilIface, .bool false]) w := run_typeAssert_lacksB Tryz.underlying66 (by kernel_rfl) (by kernel_rfl) v _ w
theorem is_err0 (a : Addr) (w : World) : (Instr.typeAssert (.iface 96 (.pointer (some a))) 20 66 true).run Tryz.prog w = .ok (.tuple #[.iface 96 (.pointer (some a)), .bool true]) w := by kernel_rfl
theorem is_err1 (a : Addr) (w : World) : (Instr.typeAssert (.iface 99 (.pointer (some a))) 20 66 true).run Tryz.prog w = .ok (.tuple #[.iface 99 (.pointer (some a)), .bool true]) w := by kernel_rfl
theorem seven_stores (w : World) (g : Nat) (u0 u1 u2 u3 u4 u5 u6 : Value) : Chg (fun b => b ≠ g) w (((((((w.setCell ⟨g, 0, none⟩ u0).setCell ⟨g, 1, none⟩ u1).setCell ⟨g, 2, none⟩ u2).setCell ⟨g, 3, none⟩ u3).setCell ⟨g, 4, none⟩ u4).setCell ⟨g, 5, none⟩ u5).setCell ⟨g, 6, none⟩ u6) :=
  (six_stores w g u0 u1 u2 u3 u4 u5).setCell _ _ fun _ h => h rfl
set_option maxHeartbeats 1000000 in
set_option maxRecDepth 100000 in
theorem from_str (s : ByteArray) (w : World) : Calls Tryz.prog 33 #[.iface 9 (.string s)] w fun e w' => e = .returned (.tuple #[.agg #[.int .i64 4, .int .i64 0, .string s, .slice none 0 0, .slice none 0 0, .slice none 0 0], .bool true]) ∧ Old w w' := by
  have t0 := as_str_bool
  have t1 := as_str_int
  have t2 := as_str_flt
  have t3 := as_str
  go_enter Tryz.func33, Tryz.ntmps33
  go_wp2
  refine bodyPost_ret (v := .tuple #[.agg #[.int .i64 4, .int .i64 0, .string s, .slice none 0 0, .slice none 0 0, .slice none 0 0], .bool true]) (by simp [results, Tryz.results33, go_sem]) rfl ?_
  exact ⟨rfl, (Old.refl w).alloc _⟩
/-- The answer is a text. -/
def TextAns (s : ByteArray) (w : World) (e : Ending) (w' : World) : Prop := e = .returned (.agg #[.int .i64 4, .int .i64 0, .string s, .slice none 0 0, .slice none 0 0, .slice none 0 0, .int .i64 0]) ∧ Old w w'
set_option maxHeartbeats 2000000 in
set_option maxRecDepth 100000 in
theorem result_str (s : ByteArray) (w : World) : Calls Tryz.prog 18 #[.iface 9 (.string s)] w (TextAns s w) := by
  have he := err_str
  go_enter Tryz.func18, Tryz.ntmps18
  go_wp2_with (go_at_call 33; go_must (refine (from_str s _).mono ?_; rintro e w2 ⟨rfl, ho⟩; have HO := Lib.hid (((Old.refl w).alloc _).trans ho); have bx := (Blk.new w _ _).old ho; have x0 := bx.cell 0; have x1 := bx.cell 1; have x2 := bx.cell 2; have x3 := bx.cell 3; have x4 := bx.cell 4; have x5 := bx.cell 5; have x6 := bx.cell 6; have f0 := bx.frozen 0; have f1 := bx.frozen 1; have f2 := bx.frozen 2; have f3 := bx.frozen 3; have f4 := bx.frozen 4; have f5 := bx.frozen 5; have f6 := bx.frozen 6; have hbl := bx.lt; clear ho bx))
  refine bodyPost_ret (v := .agg #[.int .i64 4, .int .i64 0, .string s, .slice none 0 0, .slice none 0 0, .slice none 0 0, .int .i64 0]) (by simp [results, Tryz.results18, go_sem, x0, x1, x2, x3, x4, x5, x6, hbl, World.cell?_alloc_lt]) rfl ?_
  have hc := (seven_stores w2 w.heap.size (.int .i64 4) (.int .i64 0) (.string s) (.slice none 0 0) (.slice none 0 0) (.slice none 0 0) (.int .i64 0)).alloc (.cells #[.int .i64 4, .int .i64 0, .string s, .slice none 0 0, .slice none 0 0, .slice none 0 0] 26)
  exact ⟨rfl, Old.chg_ HO.out hc fun b hb => Nat.ne_of_lt hb⟩
/-- An error's type. -/
def ErrT (t : TypeId) : Prop := t = 96 ∨ t = 99
set_option maxHeartbeats 1000000 in
set_option maxRecDepth 100000 in
theorem result_err (t : TypeId) (ht : ErrT t) (w : World) (a : Addr) : Calls Tryz.prog 18 #[.iface t (.pointer (some a))] w (ErrAns w) := by
  rcases ht with rfl | rfl
  · have he := fun w => is_err0 a w
    go_enter Tryz.func18, Tryz.ntmps18
    go_wp2
    refine bodyPost_ret (v := .agg #[.int .i64 0, .int .i64 0, .string ⟨#[]⟩, .slice none 0 0, .slice none 0 0, .slice none 0 0, .int .i64 1]) (by simp [results, Tryz.results18, go_sem]) rfl ?_
    exact ⟨rfl, (Old.refl w).alloc _⟩
  · have he := fun w => is_err1 a w
    go_enter Tryz.func18, Tryz.ntmps18
    go_wp2
    refine bodyPost_ret (v := .agg #[.int .i64 0, .int .i64 0, .string ⟨#[]⟩, .slice none 0 0, .slice none 0 0, .slice none 0 0, .int .i64 1]) (by simp [results, Tryz.results18, go_sem]) rfl ?_
    exact ⟨rfl, (Old.refl w).alloc _⟩
/-- The program gives a text; an error. -/
def GoText (s : ByteArray) (w : World) (e : Ending) (w' : World) : Prop := e = .returned (.iface 9 (.string s)) ∧ Old w w'
def GoErr (w : World) (e : Ending) (w' : World) : Prop := (∃ t a, e = .returned (.iface t (.pointer (some a))) ∧ ErrT t) ∧ Old w w'
set_option maxHeartbeats 4000000 in
set_option maxRecDepth 100000 in
theorem door_text {v : V} (hT : Turns v) (s : ByteArray) (hz : ∀ (W : World) (ok : Nat → Prop) (x : Value), KJ W ok (toJ v) x → Calls Tryz.prog 19 #[x] W (GoText s W)) (w : World) (ok : Nat → Prop) (c0 c1 c2 c3 c4 c5 : Value) (hc : KV w ok v [c0, c1, c2, c3, c4, c5]) :
    Calls Tryz.prog 8 #[.agg #[c0, c1, c2, c3, c4, c5]] w (TextAns s w) := by
  have TA := Lib.hid hT
  have C := Lib.hid hc
  have HZ := Lib.hid hz
  obtain ⟨A1, n1, m1, A2, n2, m2, A3, n3, m3, rfl, rfl, rfl, rfl, rfl, rfl⟩ := shape hc
  generalize v.kind = ka at *
  generalize v.half = fa at *
  generalize v.text = ta at *
  have ho := ((Old.refl w).alloc (.cells #[.int .i64 ka, .int .i64 fa, .string ta, .slice A1 n1 m1, .slice A2 n2 m2, .slice A3 n3 m3] 26)).alloc (.cells #[.int .i64 0, .int .i64 0, .string ⟨#[]⟩, .slice none 0 0, .slice none 0 0, .slice none 0 0, .int .i64 0] 31)
  have HC1 := Lib.hid (TA.out _ ok _ _ _ _ _ _ (C.out.old ho))
  have HO := Lib.hid ho
  clear hc ho hz hT
  have RB := Lib.hid (show Blk ((w.alloc (.cells #[.int .i64 ka, .int .i64 fa, .string ta, .slice A1 n1 m1, .slice A2 n2 m2, .slice A3 n3 m3] 26)).alloc (.cells #[.int .i64 0, .int .i64 0, .string ⟨#[]⟩, .slice none 0 0, .slice none 0 0, .slice none 0 0, .int .i64 0] 31)) (w.heap.size + 1) #[.int .i64 0, .int .i64 0, .string ⟨#[]⟩, .slice none 0 0, .slice none 0 0, .slice none 0 0, .int .i64 0] 31 by
    have hb := Blk.new (w.alloc (.cells #[.int .i64 ka, .int .i64 fa, .string ta, .slice A1 n1 m1, .slice A2 n2 m2, .slice A3 n3 m3] 26)) #[.int .i64 0, .int .i64 0, .string ⟨#[]⟩, .slice none 0 0, .slice none 0 0, .slice none 0 0, .int .i64 0] 31
    rw [show (w.alloc (.cells #[.int .i64 ka, .int .i64 fa, .string ta, .slice A1 n1 m1, .slice A2 n2 m2, .slice A3 n3 m3] 26)).heap.size = w.heap.size + 1 by simp] at hb
    exact hb)
  go_enter Tryz.func8, Tryz.ntmps8
  go_wp2_with (first
    | (go_at_call 17; go_must (refine HC1.out.mono ?_; rintro e w2 ⟨x, rfl, hx, ho2⟩; have HX := Lib.hid hx; have HO2 := Lib.hid ho2; clear hx ho2))
    | (go_at_call 19; go_must (refine (HZ.out _ _ _ HX.out).mono ?_; rintro e w4 ⟨rfl, ho4⟩; have HO4 := Lib.hid ho4; clear ho4))
    | (go_at_call 18; go_must (refine (result_str s _).mono ?_; rintro e w5 ⟨rfl, ho5⟩; have HO5 := Lib.hid (HO.out.trans (HO2.out.trans (HO4.out.trans ho5))); have bx := RB.out.old (HO2.out.trans (HO4.out.trans ho5)); have x0 := bx.cell 0; have x1 := bx.cell 1; have x2 := bx.cell 2; have x3 := bx.cell 3; have x4 := bx.cell 4; have x5 := bx.cell 5; have x6 := bx.cell 6; have f0 := bx.frozen 0; have f1 := bx.frozen 1; have f2 := bx.frozen 2; have f3 := bx.frozen 3; have f4 := bx.frozen 4; have f5 := bx.frozen 5; have f6 := bx.frozen 6; have hbl := bx.lt; clear ho5 bx)))
  refine bodyPost_ret (v := .agg #[.int .i64 4, .int .i64 0, .string s, .slice none 0 0, .slice none 0 0, .slice none 0 0, .int .i64 0]) (by simp [results, Tryz.results8, go_sem, x0, x1, x2, x3, x4, x5, x6]) rfl ?_
  have hs := RB.out.lt
  have hc := seven_stores w5 (w.heap.size + 1) (.int .i64 4) (.int .i64 0) (.string s) (.slice none 0 0) (.slice none 0 0) (.slice none 0 0) (.int .i64 0)
  exact ⟨rfl, Old.chg_ HO5.out hc fun b hb => Nat.ne_of_lt (by omega)⟩
set_option maxHeartbeats 4000000 in
set_option maxRecDepth 100000 in
theorem door_err {v : V} (hT : Turns v) (hz : ∀ (W : World) (ok : Nat → Prop) (x : Value), KJ W ok (toJ v) x → Calls Tryz.prog 19 #[x] W (GoErr W)) (w : World) (ok : Nat → Prop) (c0 c1 c2 c3 c4 c5 : Value) (hc : KV w ok v [c0, c1, c2, c3, c4, c5]) :
    Calls Tryz.prog 8 #[.agg #[c0, c1, c2, c3, c4, c5]] w (ErrAns w) := by
  have TA := Lib.hid hT
  have C := Lib.hid hc
  have HZ := Lib.hid hz
  obtain ⟨A1, n1, m1, A2, n2, m2, A3, n3, m3, rfl, rfl, rfl, rfl, rfl, rfl⟩ := shape hc
  generalize v.kind = ka at *
  generalize v.half = fa at *
  generalize v.text = ta at *
  have ho := ((Old.refl w).alloc (.cells #[.int .i64 ka, .int .i64 fa, .string ta, .slice A1 n1 m1, .slice A2 n2 m2, .slice A3 n3 m3] 26)).alloc (.cells #[.int .i64 0, .int .i64 0, .string ⟨#[]⟩, .slice none 0 0, .slice none 0 0, .slice none 0 0, .int .i64 0] 31)
  have HC1 := Lib.hid (TA.out _ ok _ _ _ _ _ _ (C.out.old ho))
  have HO := Lib.hid ho
  clear hc ho hz hT
  have RB := Lib.hid (show Blk ((w.alloc (.cells #[.int .i64 ka, .int .i64 fa, .string ta, .slice A1 n1 m1, .slice A2 n2 m2, .slice A3 n3 m3] 26)).alloc (.cells #[.int .i64 0, .int .i64 0, .string ⟨#[]⟩, .slice none 0 0, .slice none 0 0, .slice none 0 0, .int .i64 0] 31)) (w.heap.size + 1) #[.int .i64 0, .int .i64 0, .string ⟨#[]⟩, .slice none 0 0, .slice none 0 0, .slice none 0 0, .int .i64 0] 31 by
    have hb := Blk.new (w.alloc (.cells #[.int .i64 ka, .int .i64 fa, .string ta, .slice A1 n1 m1, .slice A2 n2 m2, .slice A3 n3 m3] 26)) #[.int .i64 0, .int .i64 0, .string ⟨#[]⟩, .slice none 0 0, .slice none 0 0, .slice none 0 0, .int .i64 0] 31
    rw [show (w.alloc (.cells #[.int .i64 ka, .int .i64 fa, .string ta, .slice A1 n1 m1, .slice A2 n2 m2, .slice A3 n3 m3] 26)).heap.size = w.heap.size + 1 by simp] at hb
    exact hb)
  go_enter Tryz.func8, Tryz.ntmps8
  go_wp2_with (first
    | (go_at_call 17; go_must (refine HC1.out.mono ?_; rintro e w2 ⟨x, rfl, hx, ho2⟩; have HX := Lib.hid hx; have HO2 := Lib.hid ho2; clear hx ho2))
    | (go_at_call 19; go_must (refine (HZ.out _ _ _ HX.out).mono ?_; rintro e w4 ⟨⟨t4, a4, rfl, hta⟩, ho4⟩; have HO4 := Lib.hid ho4; have HTA := Lib.hid hta; clear hta; clear ho4))
    | (go_at_call 18; go_must (refine (result_err _ HTA.out _ _).mono ?_; rintro e w5 ⟨rfl, ho5⟩; have HO5 := Lib.hid (HO.out.trans (HO2.out.trans (HO4.out.trans ho5))); have bx := RB.out.old (HO2.out.trans (HO4.out.trans ho5)); have x0 := bx.cell 0; have x1 := bx.cell 1; have x2 := bx.cell 2; have x3 := bx.cell 3; have x4 := bx.cell 4; have x5 := bx.cell 5; have x6 := bx.cell 6; have f0 := bx.frozen 0; have f1 := bx.frozen 1; have f2 := bx.frozen 2; have f3 := bx.frozen 3; have f4 := bx.frozen 4; have f5 := bx.frozen 5; have f6 := bx.frozen 6; have hbl := bx.lt; clear ho5 bx)))
  refine bodyPost_ret (v := .agg #[.int .i64 0, .int .i64 0, .string ⟨#[]⟩, .slice none 0 0, .slice none 0 0, .slice none 0 0, .int .i64 1]) (by simp [results, Tryz.results8, go_sem, x0, x1, x2, x3, x4, x5, x6]) rfl ?_
  have hs := RB.out.lt
  have hc := seven_stores w5 (w.heap.size + 1) (.int .i64 0) (.int .i64 0) (.string ⟨#[]⟩) (.slice none 0 0) (.slice none 0 0) (.slice none 0 0) (.int .i64 1)
  exact ⟨rfl, Old.chg_ HO5.out hc fun b hb => Nat.ne_of_lt (by omega)⟩
end Go.Proofs.YthggnkmlnjlggaaGreatDoor
