/-
  The reference's format: the walks of Format at the tab format, and of Str.
  Conditions: none.
-/
import Derived.Test.YthggnkmlnjlggaaGreatDoorRefE
namespace Go.Proofs.YthggnkmlnjlggaaGreatDoor
open Go.RowKit

set_option maxHeartbeats 8000000 in
set_option maxRecDepth 100000 in
theorem format_any {v : V} (hr : Right v) (w : World) (ok : Nat → Prop) (c0 c1 c2 c3 c4 c5 : Value) (hc : KV w ok v [c0, c1, c2, c3, c4, c5]) :
    Calls Tryz.prog 13 #[.string ⟨#[116, 115, 118]⟩, .agg #[c0, c1, c2, c3, c4, c5]] w (RowAns v w) := by
  obtain ⟨A1, n1, m1, A2, n2, m2, A3, n3, m3, rfl, rfl, rfl, rfl, rfl, rfl⟩ := shape hc
  have HL := right_list hr
  have hnu := nul_any v (by have := right_text hr; omega) (fun x hx => by have := right_text (HL.2 x hx); omega) (by omega)
  have HROW := Lib.hid (fun hz => row_any hr hz)
  have HRA := Lib.hid (show RowAns v = _ from rfl)
  obtain ⟨kd, hkd⟩ : ∃ x, x = v.kind := ⟨_, rfl⟩
  obtain ⟨hf, hhf⟩ : ∃ x, x = v.half := ⟨_, rfl⟩
  obtain ⟨tx, htx⟩ : ∃ x, x = v.text := ⟨_, rfl⟩
  rw [← hkd, ← hhf, ← htx] at hc ⊢
  have HC := Lib.hid hc
  have HNU := Lib.hid hnu
  clear hnu hkd hhf htx hr hc HL HRA
  obtain ⟨w1, hw1⟩ : ∃ x, x = w.alloc (.cells #[.int .i64 kd, .int .i64 hf, .string tx, .slice A1 n1 m1, .slice A2 n2 m2, .slice A3 n3 m3] 26) := ⟨_, rfl⟩
  have HO1 := Lib.hid (show Old w w1 by rw [hw1]; exact (Old.refl w).alloc _)
  have hbx : Blk w1 w.heap.size #[.int .i64 kd, .int .i64 hf, .string tx, .slice A1 n1 m1, .slice A2 n2 m2, .slice A3 n3 m3] 26 := by rw [hw1]; exact Blk.new _ _ _
  have BX := Lib.hid hbx
  have x0 : w1.cell? ⟨w.heap.size, 0, none⟩ = some (.int .i64 kd) := hbx.cell 0
  have x1 : w1.cell? ⟨w.heap.size, 1, none⟩ = some (.int .i64 hf) := hbx.cell 1
  have x2 : w1.cell? ⟨w.heap.size, 2, none⟩ = some (.string tx) := hbx.cell 2
  have x3 : w1.cell? ⟨w.heap.size, 3, none⟩ = some (.slice A1 n1 m1) := hbx.cell 3
  have x4 : w1.cell? ⟨w.heap.size, 4, none⟩ = some (.slice A2 n2 m2) := hbx.cell 4
  have x5 : w1.cell? ⟨w.heap.size, 5, none⟩ = some (.slice A3 n3 m3) := hbx.cell 5
  have hbl : w.heap.size < w1.heap.size := hbx.lt
  clear hbx
  go_enter Tryz.func13, Tryz.ntmps13
  go_upto_region 1 with (fail)
  rw [← hw1]
  clear hw1
  go_wp2_with (first
    | (go_at_call 21; go_must (refine (HNU.out _ ok _ _ _ _ _ _ (HC.out.old HO1.out)).mono ?_; rintro e w2 ⟨b, rfl, hz, ho2⟩; have HO2 := Lib.hid (HO1.out.trans ho2); have HZ := Lib.hid hz; have bx := BX.out.old ho2; have y0 : w2.cell? ⟨w.heap.size, 0, none⟩ = some (.int .i64 kd) := bx.cell 0; have y1 : w2.cell? ⟨w.heap.size, 1, none⟩ = some (.int .i64 hf) := bx.cell 1; have y2 : w2.cell? ⟨w.heap.size, 2, none⟩ = some (.string tx) := bx.cell 2; have y3 : w2.cell? ⟨w.heap.size, 3, none⟩ = some (.slice A1 n1 m1) := bx.cell 3; have y4 : w2.cell? ⟨w.heap.size, 4, none⟩ = some (.slice A2 n2 m2) := bx.cell 4; have y5 : w2.cell? ⟨w.heap.size, 5, none⟩ = some (.slice A3 n3 m3) := bx.cell 5; have ybl := bx.lt; clear bx ho2 hz; cases b))
    | (go_at_call 24; go_must (refine (HROW.out (HZ.out trivial).2 _ ok _ _ _ _ _ _ (HC.out.old HO2.out)).mono ?_; rintro e w3 ⟨s, how, rfl, hs, ho3⟩; have HS := Lib.hid hs; have HO3 := Lib.hid (HO2.out.trans ho3); clear hs ho3)))
  · go_ret2
    exact ⟨_, _, rfl, HS.out, HO3.out⟩
  · go_ret2
    exact ⟨_, _, rfl, .inr (.inr rfl), HO2.out⟩
def StrAns (s : ByteArray) (w : World) (e : Ending) (w' : World) : Prop := e = .returned (.agg #[.int .i64 4, .int .i64 0, .string s, .slice none 0 0, .slice none 0 0, .slice none 0 0]) ∧ Old w w'
set_option maxHeartbeats 1000000 in
set_option maxRecDepth 100000 in
theorem str_of (s : ByteArray) (w : World) : Calls Tryz.prog 16 #[.string s] w (StrAns s w) := by
  go_enter Tryz.func16, Tryz.ntmps16
  go_wp2
  refine bodyPost_ret (v := .agg #[.int .i64 4, .int .i64 0, .string s, .slice none 0 0, .slice none 0 0, .slice none 0 0]) (by simp [results, Tryz.results16, go_sem]) rfl ?_
  exact ⟨rfl, (Old.refl w).alloc _⟩
end Go.Proofs.YthggnkmlnjlggaaGreatDoor
