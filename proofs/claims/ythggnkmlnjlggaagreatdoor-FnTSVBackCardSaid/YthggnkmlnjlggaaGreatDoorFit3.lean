/-
  A value is looked at before it is used: what the look shows.
  Conditions: none.
-/
import Derived.Test.YthggnkmlnjlggaaGreatDoorFit2
namespace Go.Proofs.YthggnkmlnjlggaaGreatDoor
open Go.RowKit

def FitAns (w : World) (v : V) (e : Ending) (w' : World) : Prop := ∃ b, e = .returned (.bool b) ∧ Old w w' ∧ (b = true → Right v ∧ nodes v ≤ 400)
set_option maxHeartbeats 1000000 in
set_option maxRecDepth 100000 in
theorem fit_any {v : V} (hz : Sized v) (w : World) (ok : Nat → Prop) (c0 c1 c2 c3 c4 c5 : Value) (h : KV w ok v [c0, c1, c2, c3, c4, c5]) (hT : Tabs w) : Calls Tryz.prog 12 #[.agg #[c0, c1, c2, c3, c4, c5]] w (FitAns w v) := by
  obtain ⟨A1, n1, m1, A2, n2, m2, A3, n3, m3, rfl, rfl, rfl, rfl, rfl, rfl⟩ := shape h
  obtain ⟨kd, hkd⟩ : ∃ x, x = v.kind := ⟨_, rfl⟩
  obtain ⟨hf, hhf⟩ : ∃ x, x = v.half := ⟨_, rfl⟩
  obtain ⟨tx, htx⟩ : ∃ x, x = v.text := ⟨_, rfl⟩
  rw [← hkd, ← hhf, ← htx] at h ⊢
  clear hkd hhf htx
  have ho := (((Old.refl w).alloc (.cells #[.int .i64 kd, .int .i64 hf, .string tx, .slice A1 n1 m1, .slice A2 n2 m2, .slice A3 n3 m3] 26)).alloc (.cells #[.int .i64 0, .int .i64 0, .bool false] 51))
  have H := Lib.hid ((h.bound.mono (ok' := fun k => k < w.heap.size) fun k hk _ => hk.2).old ho)
  have HT := Lib.hid (hT.old ho)
  have HL := Lib.hid (show Lk ((w.alloc (.cells #[.int .i64 kd, .int .i64 hf, .string tx, .slice A1 n1 m1, .slice A2 n2 m2, .slice A3 n3 m3] 26)).alloc (.cells #[.int .i64 0, .int .i64 0, .bool false] 51)) (w.heap.size + 1) 0 0 false by
    have hb := Blk.new (w.alloc (.cells #[.int .i64 kd, .int .i64 hf, .string tx, .slice A1 n1 m1, .slice A2 n2 m2, .slice A3 n3 m3] 26)) #[.int .i64 0, .int .i64 0, .bool false] 51
    rw [show (w.alloc (.cells #[.int .i64 kd, .int .i64 hf, .string tx, .slice A1 n1 m1, .slice A2 n2 m2, .slice A3 n3 m3] 26)).heap.size = w.heap.size + 1 by simp] at hb
    exact ⟨hb, fun _ => by omega⟩)
  have HZ := Lib.hid hz
  have HO := Lib.hid ho
  have g3 : Tryz.lays196_ren.g 3 ≠ w.heap.size + 1 := by have := hT.lt.1; omega
  have g4 : Tryz.lays196_ren.g 4 ≠ w.heap.size + 1 := by have := hT.lt.2; omega
  have G3 := Lib.hid g3
  have G4 := Lib.hid g4
  have hz0 : (0 : Int) ≤ 0 := Int.le_refl 0
  have hz4 : (0 : Int) ≤ 400 := by decide
  have hz6 : (0 : Int) ≤ 61 := by decide
  clear h hT hz ho g3 g4
  have hC := fun c0 c1 c2 c3 c4 c5 hk => value_any HZ.out _ (fun k => k < w.heap.size) (w.heap.size + 1) 0 0 false 0 c0 c1 c2 c3 c4 c5 hk (fun k (hk : k < w.heap.size) => by omega) HL.out HT.out G3.out G4.out hz0 hz4 hz0 hz6
  have HC := Lib.hid (hC _ _ _ _ _ _ H.out)
  clear hC hz0 hz4 hz6
  go_enter Tryz.func12, Tryz.ntmps12
  go_wp2_with (go_at_call 22; refine HC.out.mono ?_; rintro e w3 ⟨rfl, p3, b3, bad3, hl3, hb3, _, _, hg3⟩; obtain ⟨y0, y1, y2, z0, z1, z2, y3⟩ := hl3.cells; have HB := Lib.hid hb3; have HG := Lib.hid hg3; clear hl3 hb3 hg3)
  go_ret
  have hg : (!bad3) = true → Right v ∧ nodes v ≤ 400 := fun hx => by
    have hb : bad3 = false := by simpa using hx
    exact ⟨(HG.out hb).2.2.2, by have h1 := (HG.out hb).2.1; have h2 := (HG.out hb).2.2.1; omega⟩
  have hb' : Chg (fun k => k ≠ w.heap.size + 1) _ w3 := HB.out
  have ho' := Old.chg_ HO.out hb' (fun i hi => Nat.ne_of_lt (Nat.lt_succ_of_lt hi))
  exact ⟨_, rfl, ho', hg⟩
end Go.Proofs.YthggnkmlnjlggaaGreatDoor
