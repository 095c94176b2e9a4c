/-
  What a function of the program gives, as an answer: a value.
  Conditions: the value is right.
-/
import Derived.Test.YtpoanncombcemaaGreatDoorFrom4
import Derived.Stop.Asserts
namespace Go.Proofs.YtpoanncombcemaaGreatDoor
open Go.RowKit

theorem err_nil (w : World) : (Instr.typeAssert .nilIface 20 82 true).run Tryz.prog w = .ok (.tuple #[.nilIface, .bool false]) w := by kernel_rfl
theorem err_bool (v : Value) (w : World) : (Instr.typeAssert (.iface 4 v) 20 82 true).run Tryz.prog w = .ok (.tuple #[.nilIface, .bool false]) w := run_typeAssert_lacksB Tryz.underlying82 (by kernel_rfl) (by kernel_rfl) v _ w
theorem err_int (v : Value) (w : World) : (Instr.typeAssert (.iface 3 v) 20 82 true).run Tryz.prog w = .ok (.tuple #[.nilIface, .bool false]) w := run_typeAssert_lacksB Tryz.underlying82 (by kernel_rfl) (by kernel_rfl) v _ w
theorem err_flt (v : Value) (w : World) : (Instr.typeAssert (.iface 74 v) 20 82 true).run Tryz.prog w = .ok (.tuple #[.nilIface, .bool false]) w := run_typeAssert_lacksB Tryz.underlying82 (by kernel_rfl) (by kernel_rfl) v _ w
theorem err_str (v : Value) (w : World) : (Instr.typeAssert (.iface 9 v) 20 82 true).run Tryz.prog w = .ok (.tuple #[.nilIface, .bool false]) w := run_typeAssert_lacksB Tryz.underlying82 (by kernel_rfl) (by kernel_rfl) v _ w
theorem err_arr (v : Value) (w : World) : (Instr.typeAssert (.iface 75 v) 20 82 true).run Tryz.prog w = .ok (.tuple #[.nilIface, .bool false]) w := run_typeAssert_lacksB Tryz.underlying82 (by kernel_rfl) (by kernel_rfl) v _ w
theorem err_obj (v : Value) (w : World) : (Instr.typeAssert (.iface 78 v) 20 82 true).run Tryz.prog w = .ok (.tuple #[.nilIface, .bool false]) w := run_typeAssert_lacksB Tryz.underlying82 (by kernel_rfl) (by kernel_rfl) v _ w
theorem err_none {w0 : World} {ok : Nat → Prop} {j : J} {x : Value} (h : KJ w0 ok j x) (w : World) : (Instr.typeAssert x 20 82 true).run Tryz.prog w = .ok (.tuple #[.nilIface, .bool false]) w := by
  cases h
  · exact err_nil w
  · exact err_bool _ w
  · exact err_int _ w
  · exact err_flt _ w
  · exact err_str _ w
  · exact err_arr _ w
  · exact err_obj _ w

def ResAns (w : World) (j : J) (e : Ending) (w' : World) : Prop :=
  ∃ c0 c1 c2 c3 c4 c5, e = .returned (.agg #[c0, c1, c2, c3, c4, c5, .int .i64 0]) ∧ KV w' (fun b => w.heap.size ≤ b) (ofJ j) [c0, c1, c2, c3, c4, c5] ∧ Old w w'
theorem seven_stores (w : World) (g : Nat) (u0 u1 u2 u3 u4 u5 u6 : Value) : Chg (fun b => b ≠ g) w (((((((w.setCell ⟨g, 0, none⟩ u0).setCell ⟨g, 1, none⟩ u1).setCell ⟨g, 2, none⟩ u2).setCell ⟨g, 3, none⟩ u3).setCell ⟨g, 4, none⟩ u4).setCell ⟨g, 5, none⟩ u5).setCell ⟨g, 6, none⟩ u6) :=
  (six_stores w g u0 u1 u2 u3 u4 u5).setCell _ _ fun _ h => h rfl

set_option maxHeartbeats 4000000 in
set_option maxRecDepth 100000 in
theorem result_any {j : J} (hf : Froms j) (w : World) (ok : Nat → Prop) (x : Value) (h : KJ w ok j x) : Calls Tryz.prog 32 #[x] w (ResAns w j) := by
  have hta := fun w' => err_none h w'
  have HX := Lib.hid (h.old ((Old.refl w).alloc (.cells #[.int .i64 0, .int .i64 0, .string ⟨#[]⟩, .slice none 0 0, .slice none 0 0, .slice none 0 0, .int .i64 0] 34)))
  have HF := Lib.hid hf
  have hj := jshape h
  clear h hf
  rcases hj with rfl | ⟨xt, xv, rfl⟩
  all_goals
    go_enter Tryz.func32, Tryz.ntmps32
    go_wp2_with (go_at_call 69; go_must (refine (HF.out _ ok _ HX.out).mono ?_; rintro e w2 ⟨d0, d1, d2, d3, d4, d5, rfl, hv, ho⟩; have HO := Lib.hid (((Old.refl w).alloc _).trans ho); have bx := (Blk.new w _ _).old ho; have x0 := bx.cell 0; have x1 := bx.cell 1; have x2 := bx.cell 2; have x3 := bx.cell 3; have x4 := bx.cell 4; have x5 := bx.cell 5; have x6 := bx.cell 6; have f0 := bx.frozen 0; have f1 := bx.frozen 1; have f2 := bx.frozen 2; have f3 := bx.frozen 3; have f4 := bx.frozen 4; have f5 := bx.frozen 5; have f6 := bx.frozen 6; have hbl := bx.lt; obtain ⟨B1, q1, p1, B2, q2, p2, B3, q3, p3, rfl, rfl, rfl, rfl, rfl, rfl⟩ := shape hv; obtain ⟨kd, hkd⟩ : ∃ x, x = (ofJ j).kind := ⟨_, rfl⟩; obtain ⟨hf, hhf⟩ : ∃ x, x = (ofJ j).half := ⟨_, rfl⟩; obtain ⟨tx, htx⟩ : ∃ x, x = (ofJ j).text := ⟨_, rfl⟩; rw [← hkd, ← hhf, ← htx] at hv ⊢; have HV := Lib.hid hv; clear hv hkd hhf htx ho bx))
    refine bodyPost_ret (v := .agg #[.int .i64 kd, .int .i64 hf, .string tx, .slice B1 q1 p1, .slice B2 q2 p2, .slice B3 q3 p3, .int .i64 0]) (by simp [results, Tryz.results32, go_sem, x0, x1, x2, x3, x4, x5, x6, hbl, World.cell?_alloc_lt]) rfl ?_
    have hc := (seven_stores w2 w.heap.size (.int .i64 kd) (.int .i64 hf) (.string tx) (.slice B1 q1 p1) (.slice B2 q2 p2) (.slice B3 q3 p3) (.int .i64 0)).alloc (.cells #[.int .i64 kd, .int .i64 hf, .string tx, .slice B1 q1 p1, .slice B2 q2 p2, .slice B3 q3 p3] 27)
    have hm : ∀ b : Nat, (w.alloc (.cells #[.int .i64 0, .int .i64 0, .string ⟨#[]⟩, .slice none 0 0, .slice none 0 0, .slice none 0 0, .int .i64 0] 34)).heap.size ≤ b → b ≠ w.heap.size ∧ w.heap.size ≤ b := fun b hb => by simp at hb; omega
    exact ⟨_, _, _, _, _, _, rfl, (HV.out.chg (Chg.mono hc fun b _ hb => (hm b hb).1)).mono fun b hb _ => (hm b hb).2, Old.chg_ HO.out hc fun b hb => Nat.ne_of_lt hb⟩
end Go.Proofs.YtpoanncombcemaaGreatDoor
