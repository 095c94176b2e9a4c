/-
  An answer is held against a text: the walks of Cmp, Same and told at texts; of formatted.
  Conditions: none.
-/
import Derived.Test.YthggnkmlnjlggaaGreatDoorCtl
import Derived.Deep.DrawnRows
import Derived.Deep.RegionHeld3
namespace Go.Proofs.YthggnkmlnjlggaaGreatDoor
open Go.RowKit

set_option maxHeartbeats 2000000 in
set_option maxRecDepth 100000 in
theorem cmp_text (s : ByteArray) (w : World) : Calls Tryz.prog 44 #[.agg #[.int .i64 4, .int .i64 0, .string s, .slice none 0 0, .slice none 0 0, .slice none 0 0], .agg #[.int .i64 4, .int .i64 0, .string s, .slice none 0 0, .slice none 0 0, .slice none 0 0]] w (ZeroAns w) := by
  have ho := ((Old.refl w).alloc (.cells #[.int .i64 4, .int .i64 0, .string s, .slice none 0 0, .slice none 0 0, .slice none 0 0] 26)).alloc (.cells #[.int .i64 4, .int .i64 0, .string s, .slice none 0 0, .slice none 0 0, .slice none 0 0] 26)
  have HO := Lib.hid ho
  clear ho
  go_enter Tryz.func44, Tryz.ntmps44
  go_wp2_with (first
    | (go_at_call 53; refine (sign_zero _).mono ?_; rintro e w' ⟨rfl, rfl⟩)
    | (go_at_call 54; refine (texts_same _ _).mono ?_; rintro e w' ⟨rfl, rfl⟩))
  go_ret
  exact ⟨rfl, HO.out⟩
set_option maxHeartbeats 1000000 in
theorem same_text (s : ByteArray) (w : World) : Calls Tryz.prog 30 #[.agg #[.int .i64 4, .int .i64 0, .string s, .slice none 0 0, .slice none 0 0, .slice none 0 0], .agg #[.int .i64 4, .int .i64 0, .string s, .slice none 0 0, .slice none 0 0, .slice none 0 0]] w (TrueAns w) := by
  have ho := ((Old.refl w).alloc (.cells #[.int .i64 4, .int .i64 0, .string s, .slice none 0 0, .slice none 0 0, .slice none 0 0] 26)).alloc (.cells #[.int .i64 4, .int .i64 0, .string s, .slice none 0 0, .slice none 0 0, .slice none 0 0] 26)
  have HO := Lib.hid ho
  clear ho
  go_enter Tryz.func30, Tryz.ntmps30
  go_wp2_with (go_at_call 44; go_must (refine (cmp_text s _).mono ?_; rintro e w2 ⟨rfl, ho2⟩; have HO2 := Lib.hid ho2; clear ho2))
  go_ret
  exact ⟨rfl, HO.out.trans HO2.out⟩
set_option maxHeartbeats 1000000 in
theorem told_text (s : ByteArray) (w : World) : Calls Tryz.prog 15 #[.agg #[.int .i64 4, .int .i64 0, .string s, .slice none 0 0, .slice none 0 0, .slice none 0 0, .int .i64 0], .agg #[.int .i64 4, .int .i64 0, .string s, .slice none 0 0, .slice none 0 0, .slice none 0 0], .int .i64 0] w (TrueAns w) := by
  have ho := ((Old.refl w).alloc (.cells #[.int .i64 4, .int .i64 0, .string s, .slice none 0 0, .slice none 0 0, .slice none 0 0, .int .i64 0] 31)).alloc (.cells #[.int .i64 4, .int .i64 0, .string s, .slice none 0 0, .slice none 0 0, .slice none 0 0] 26)
  have HO := Lib.hid ho
  clear ho
  go_enter Tryz.func15, Tryz.ntmps15
  go_wp2_with (go_at_call 30; go_must (refine (same_text s _).mono ?_; rintro e w2 ⟨rfl, ho2⟩; have HO2 := Lib.hid ho2; clear ho2))
  go_ret
  exact ⟨rfl, HO.out.trans HO2.out⟩
set_option maxHeartbeats 1000000 in
theorem told_silent (c0 c1 c2 c3 c4 c5 c6 d0 d1 d2 d3 d4 d5 : Value) (w : World) : Calls Tryz.prog 15 #[.agg #[c0, c1, c2, c3, c4, c5, c6], .agg #[d0, d1, d2, d3, d4, d5], .int .i64 2] w (TrueAns w) := by
  go_enter Tryz.func15, Tryz.ntmps15
  go_wp2
  go_ret
  exact ⟨rfl, ((Old.refl w).alloc _).alloc _⟩
end Go.Proofs.YthggnkmlnjlggaaGreatDoor
namespace Go.Proofs.YthggnkmlnjlggaaGreatDoor
open Go.RowKit

set_option maxHeartbeats 8000000 in
set_option maxRecDepth 100000 in
theorem formatted_text {v : V} (hr : Right v) (s0 : ByteArray) (hv : v.kind = 5 ∧ (∀ x ∈ v.list, x.kind ≤ 4) ∧ s0 = joinT (v.list.map cellT)) (w : World) (ok : Nat → Prop) (c0 c1 c2 c3 c4 c5 : Value) (hc : KV w ok v [c0, c1, c2, c3, c4, c5]) :
    Calls Tryz.prog 7 #[.agg #[.int .i64 4, .int .i64 0, .string s0, .slice none 0 0, .slice none 0 0, .slice none 0 0, .int .i64 0], .string ⟨#[116, 115, 118]⟩, .agg #[c0, c1, c2, c3, c4, c5]] w (TrueAns w) := by
  obtain ⟨A1, n1, m1, A2, n2, m2, A3, n3, m3, rfl, rfl, rfl, rfl, rfl, rfl⟩ := shape hc
  have HCTL := Lib.hid (control_any hr.1 hr.2)
  have HF := Lib.hid (fun W ok c0 c1 c2 c3 c4 c5 hk => format_any hr W ok c0 c1 c2 c3 c4 c5 hk)
  obtain ⟨kd, hkd⟩ : ∃ x, x = v.kind := ⟨_, rfl⟩
  obtain ⟨hf, hhf⟩ : ∃ x, x = v.half := ⟨_, rfl⟩
  obtain ⟨tx, htx⟩ : ∃ x, x = v.text := ⟨_, rfl⟩
  rw [← hkd, ← hhf, ← htx] at hc ⊢
  have HC := Lib.hid hc
  have HKD := Lib.hid hkd
  have HV := Lib.hid hv
  clear hkd hhf htx hr hc hv
  obtain ⟨w1, hw1⟩ : ∃ x, x = (w.alloc (.cells #[.int .i64 4, .int .i64 0, .string s0, .slice none 0 0, .slice none 0 0, .slice none 0 0, .int .i64 0] 31)).alloc (.cells #[.int .i64 kd, .int .i64 hf, .string tx, .slice A1 n1 m1, .slice A2 n2 m2, .slice A3 n3 m3] 26) := ⟨_, rfl⟩
  have HO1 := Lib.hid (show Old w w1 by rw [hw1]; exact ((Old.refl w).alloc _).alloc _)
  have hbr : Blk w1 w.heap.size #[.int .i64 4, .int .i64 0, .string s0, .slice none 0 0, .slice none 0 0, .slice none 0 0, .int .i64 0] 31 := by rw [hw1]; exact (Blk.new w _ _).alloc _
  have hbv : Blk w1 (w.heap.size + 1) #[.int .i64 kd, .int .i64 hf, .string tx, .slice A1 n1 m1, .slice A2 n2 m2, .slice A3 n3 m3] 26 := by rw [hw1]; exact Blk.new_ (by simp) _ _
  have BR := Lib.hid hbr
  have BV := Lib.hid hbv
  have x0 : w1.cell? ⟨w.heap.size + 1, 0, none⟩ = some (.int .i64 kd) := hbv.cell 0
  have x1 : w1.cell? ⟨w.heap.size + 1, 1, none⟩ = some (.int .i64 hf) := hbv.cell 1
  have x2 : w1.cell? ⟨w.heap.size + 1, 2, none⟩ = some (.string tx) := hbv.cell 2
  have x3 : w1.cell? ⟨w.heap.size + 1, 3, none⟩ = some (.slice A1 n1 m1) := hbv.cell 3
  have x4 : w1.cell? ⟨w.heap.size + 1, 4, none⟩ = some (.slice A2 n2 m2) := hbv.cell 4
  have x5 : w1.cell? ⟨w.heap.size + 1, 5, none⟩ = some (.slice A3 n3 m3) := hbv.cell 5
  have hl1 := hbv.lt
  clear hbr hbv
  have h5 : kd = 5 := HKD.out.trans HV.out.1
  subst h5
  go_enter Tryz.func7, Tryz.ntmps7
  go_upto_region 1 with (fail)
  rw [← hw1]
  clear hw1
  go_upto_region 4 with (first | (go_at_call 13; go_must (refine (HF.out _ ok _ _ _ _ _ _ (HC.out.old HO1.out)).mono ?_; rintro e w2 ⟨s, how, rfl, hs, ho2⟩; have HO2 := Lib.hid (HO1.out.trans ho2); have BR2 := Lib.hid (BR.out.old ho2); have bv := BV.out.old ho2; have y0 : w2.cell? ⟨w.heap.size + 1, 0, none⟩ = some (.int .i64 5) := bv.cell 0; have y1 : w2.cell? ⟨w.heap.size + 1, 1, none⟩ = some (.int .i64 hf) := bv.cell 1; have y2 : w2.cell? ⟨w.heap.size + 1, 2, none⟩ = some (.string tx) := bv.cell 2; have y3 : w2.cell? ⟨w.heap.size + 1, 3, none⟩ = some (.slice A1 n1 m1) := bv.cell 3; have y4 : w2.cell? ⟨w.heap.size + 1, 4, none⟩ = some (.slice A2 n2 m2) := bv.cell 4; have y5 : w2.cell? ⟨w.heap.size + 1, 5, none⟩ = some (.slice A3 n3 m3) := bv.cell 5; have ybl := bv.lt; have HS := Lib.hid hs; clear bv ho2 hs)) | (go_at_call 14; go_must (refine (HCTL.out _ ok _ _ _ _ _ _ (HC.out.old HO2.out)).mono ?_; rintro e w3 ⟨b3, rfl, ho3⟩; have HO3 := Lib.hid (HO2.out.trans ho3); have BR3 := Lib.hid (BR2.out.old ho3); clear ho3; cases b3)))
  all_goals
    have bz := BR3.out
    have z0 : w3.cell? ⟨w.heap.size, 0, none⟩ = some (.int .i64 4) := bz.cell 0; have z1 : w3.cell? ⟨w.heap.size, 1, none⟩ = some (.int .i64 0) := bz.cell 1; have z2 : w3.cell? ⟨w.heap.size, 2, none⟩ = some (.string s0) := bz.cell 2; have z3 : w3.cell? ⟨w.heap.size, 3, none⟩ = some (.slice none 0 0) := bz.cell 3; have z4 : w3.cell? ⟨w.heap.size, 4, none⟩ = some (.slice none 0 0) := bz.cell 4; have z5 : w3.cell? ⟨w.heap.size, 5, none⟩ = some (.slice none 0 0) := bz.cell 5; have z6 : w3.cell? ⟨w.heap.size, 6, none⟩ = some (.int .i64 0) := bz.cell 6;
    have zbl := bz.lt
    clear bz
    rcases HS.out with ⟨rfl, g1, g2, hs0⟩ | ⟨rfl, g1⟩ | rfl
    · obtain rfl : s0 = s := HV.out.2.2.trans hs0.symm
      clear hs0 g2
      go_region_held3 (fun w' => w'.cell? ⟨w.heap.size, 0, none⟩ = some (.int .i64 4) ∧ w'.cell? ⟨w.heap.size, 1, none⟩ = some (.int .i64 0) ∧ w'.cell? ⟨w.heap.size, 2, none⟩ = some (.string s0) ∧ w'.cell? ⟨w.heap.size, 3, none⟩ = some (.slice none 0 0) ∧ w'.cell? ⟨w.heap.size, 4, none⟩ = some (.slice none 0 0) ∧ w'.cell? ⟨w.heap.size, 5, none⟩ = some (.slice none 0 0) ∧ w'.cell? ⟨w.heap.size, 6, none⟩ = some (.int .i64 0)) (go_keep) ((first | (go_at_call 16; refine (str_of _ _).mono ?_; rintro e w5 ⟨rfl, ho5⟩; have ho5b : Old w3 w5 := (by first | exact Old.trans ((Old.refl _).drew) ho5 | exact ho5); have HO5 := Lib.hid ho5b; have bz := BR3.out.old ho5b; have z0 : w5.cell? ⟨w.heap.size, 0, none⟩ = some (.int .i64 4) := bz.cell 0; have z1 : w5.cell? ⟨w.heap.size, 1, none⟩ = some (.int .i64 0) := bz.cell 1; have z2 : w5.cell? ⟨w.heap.size, 2, none⟩ = some (.string s0) := bz.cell 2; have z3 : w5.cell? ⟨w.heap.size, 3, none⟩ = some (.slice none 0 0) := bz.cell 3; have z4 : w5.cell? ⟨w.heap.size, 4, none⟩ = some (.slice none 0 0) := bz.cell 4; have z5 : w5.cell? ⟨w.heap.size, 5, none⟩ = some (.slice none 0 0) := bz.cell 5; have z6 : w5.cell? ⟨w.heap.size, 6, none⟩ = some (.int .i64 0) := bz.cell 6; have zbl := bz.lt; clear bz ho5 ho5b) | (go_at_call 15; refine (told_text _ _).mono ?_; rintro e w6 ⟨rfl, ho6⟩; have ho6b := HO5.out.trans ho6; have HO6 := Lib.hid (HO3.out.trans ho6b); have bz := BR3.out.old ho6b; have z0 : w6.cell? ⟨w.heap.size, 0, none⟩ = some (.int .i64 4) := bz.cell 0; have z1 : w6.cell? ⟨w.heap.size, 1, none⟩ = some (.int .i64 0) := bz.cell 1; have z2 : w6.cell? ⟨w.heap.size, 2, none⟩ = some (.string s0) := bz.cell 2; have z3 : w6.cell? ⟨w.heap.size, 3, none⟩ = some (.slice none 0 0) := bz.cell 3; have z4 : w6.cell? ⟨w.heap.size, 4, none⟩ = some (.slice none 0 0) := bz.cell 4; have z5 : w6.cell? ⟨w.heap.size, 5, none⟩ = some (.slice none 0 0) := bz.cell 5; have z6 : w6.cell? ⟨w.heap.size, 6, none⟩ = some (.int .i64 0) := bz.cell 6; have zbl := bz.lt; clear bz ho6 ho6b)))
      go_wp2
      go_ret
      exact ⟨rfl, HO6.out⟩
    · exfalso
      rcases g1 with g1 | ⟨x, hx, g1⟩
      · exact g1 HV.out.1
      · have := HV.out.2.1 x hx
        omega
    · skip
      go_region_held3 (fun w' => w'.cell? ⟨w.heap.size, 0, none⟩ = some (.int .i64 4) ∧ w'.cell? ⟨w.heap.size, 1, none⟩ = some (.int .i64 0) ∧ w'.cell? ⟨w.heap.size, 2, none⟩ = some (.string s0) ∧ w'.cell? ⟨w.heap.size, 3, none⟩ = some (.slice none 0 0) ∧ w'.cell? ⟨w.heap.size, 4, none⟩ = some (.slice none 0 0) ∧ w'.cell? ⟨w.heap.size, 5, none⟩ = some (.slice none 0 0) ∧ w'.cell? ⟨w.heap.size, 6, none⟩ = some (.int .i64 0)) (go_keep) ((first | (go_at_call 16; refine (str_of _ _).mono ?_; rintro e w5 ⟨rfl, ho5⟩; have ho5b : Old w3 w5 := (by first | exact Old.trans ((Old.refl _).drew) ho5 | exact ho5); have HO5 := Lib.hid ho5b; have bz := BR3.out.old ho5b; have z0 : w5.cell? ⟨w.heap.size, 0, none⟩ = some (.int .i64 4) := bz.cell 0; have z1 : w5.cell? ⟨w.heap.size, 1, none⟩ = some (.int .i64 0) := bz.cell 1; have z2 : w5.cell? ⟨w.heap.size, 2, none⟩ = some (.string s0) := bz.cell 2; have z3 : w5.cell? ⟨w.heap.size, 3, none⟩ = some (.slice none 0 0) := bz.cell 3; have z4 : w5.cell? ⟨w.heap.size, 4, none⟩ = some (.slice none 0 0) := bz.cell 4; have z5 : w5.cell? ⟨w.heap.size, 5, none⟩ = some (.slice none 0 0) := bz.cell 5; have z6 : w5.cell? ⟨w.heap.size, 6, none⟩ = some (.int .i64 0) := bz.cell 6; have zbl := bz.lt; clear bz ho5 ho5b) | (go_at_call 15; refine (told_silent _ _ _ _ _ _ _ _ _ _ _ _ _ _).mono ?_; rintro e w6 ⟨rfl, ho6⟩; have ho6b := HO5.out.trans ho6; have HO6 := Lib.hid (HO3.out.trans ho6b); have bz := BR3.out.old ho6b; have z0 : w6.cell? ⟨w.heap.size, 0, none⟩ = some (.int .i64 4) := bz.cell 0; have z1 : w6.cell? ⟨w.heap.size, 1, none⟩ = some (.int .i64 0) := bz.cell 1; have z2 : w6.cell? ⟨w.heap.size, 2, none⟩ = some (.string s0) := bz.cell 2; have z3 : w6.cell? ⟨w.heap.size, 3, none⟩ = some (.slice none 0 0) := bz.cell 3; have z4 : w6.cell? ⟨w.heap.size, 4, none⟩ = some (.slice none 0 0) := bz.cell 4; have z5 : w6.cell? ⟨w.heap.size, 5, none⟩ = some (.slice none 0 0) := bz.cell 5; have z6 : w6.cell? ⟨w.heap.size, 6, none⟩ = some (.int .i64 0) := bz.cell 6; have zbl := bz.lt; clear bz ho6 ho6b)))
      go_wp2
      go_ret
      exact ⟨rfl, HO6.out⟩
set_option maxHeartbeats 8000000 in
set_option maxRecDepth 100000 in
theorem formatted_err {v : V} (hr : Right v) (hv : v.kind = 5 → ∃ x ∈ v.list, 5 ≤ x.kind) (w : World) (ok : Nat → Prop) (c0 c1 c2 c3 c4 c5 : Value) (hc : KV w ok v [c0, c1, c2, c3, c4, c5]) :
    Calls Tryz.prog 7 #[.agg #[.int .i64 0, .int .i64 0, .string ⟨#[]⟩, .slice none 0 0, .slice none 0 0, .slice none 0 0, .int .i64 1], .string ⟨#[116, 115, 118]⟩, .agg #[c0, c1, c2, c3, c4, c5]] w (TrueAns w) := by
  obtain ⟨A1, n1, m1, A2, n2, m2, A3, n3, m3, rfl, rfl, rfl, rfl, rfl, rfl⟩ := shape hc
  have HCTL := Lib.hid (control_any hr.1 hr.2)
  have HF := Lib.hid (fun W ok c0 c1 c2 c3 c4 c5 hk => format_any hr W ok c0 c1 c2 c3 c4 c5 hk)
  obtain ⟨kd, hkd⟩ : ∃ x, x = v.kind := ⟨_, rfl⟩
  obtain ⟨hf, hhf⟩ : ∃ x, x = v.half := ⟨_, rfl⟩
  obtain ⟨tx, htx⟩ : ∃ x, x = v.text := ⟨_, rfl⟩
  rw [← hkd, ← hhf, ← htx] at hc ⊢
  have HC := Lib.hid hc
  have HKD := Lib.hid hkd
  have HV := Lib.hid hv
  clear hkd hhf htx hr hc hv
  obtain ⟨w1, hw1⟩ : ∃ x, x = (w.alloc (.cells #[.int .i64 0, .int .i64 0, .string ⟨#[]⟩, .slice none 0 0, .slice none 0 0, .slice none 0 0, .int .i64 1] 31)).alloc (.cells #[.int .i64 kd, .int .i64 hf, .string tx, .slice A1 n1 m1, .slice A2 n2 m2, .slice A3 n3 m3] 26) := ⟨_, rfl⟩
  have HO1 := Lib.hid (show Old w w1 by rw [hw1]; exact ((Old.refl w).alloc _).alloc _)
  have hbr : Blk w1 w.heap.size #[.int .i64 0, .int .i64 0, .string ⟨#[]⟩, .slice none 0 0, .slice none 0 0, .slice none 0 0, .int .i64 1] 31 := by rw [hw1]; exact (Blk.new w _ _).alloc _
  have hbv : Blk w1 (w.heap.size + 1) #[.int .i64 kd, .int .i64 hf, .string tx, .slice A1 n1 m1, .slice A2 n2 m2, .slice A3 n3 m3] 26 := by rw [hw1]; exact Blk.new_ (by simp) _ _
  have BR := Lib.hid hbr
  have BV := Lib.hid hbv
  have x0 : w1.cell? ⟨w.heap.size + 1, 0, none⟩ = some (.int .i64 kd) := hbv.cell 0
  have x1 : w1.cell? ⟨w.heap.size + 1, 1, none⟩ = some (.int .i64 hf) := hbv.cell 1
  have x2 : w1.cell? ⟨w.heap.size + 1, 2, none⟩ = some (.string tx) := hbv.cell 2
  have x3 : w1.cell? ⟨w.heap.size + 1, 3, none⟩ = some (.slice A1 n1 m1) := hbv.cell 3
  have x4 : w1.cell? ⟨w.heap.size + 1, 4, none⟩ = some (.slice A2 n2 m2) := hbv.cell 4
  have x5 : w1.cell? ⟨w.heap.size + 1, 5, none⟩ = some (.slice A3 n3 m3) := hbv.cell 5
  have hl1 := hbv.lt
  clear hbr hbv
  by_cases h4 : kd = 4
  · subst h4
    go_enter Tryz.func7, Tryz.ntmps7
    go_upto_region 1 with (fail)
    rw [← hw1]
    clear hw1
    go_upto_region 4 with ((go_at_call 13; go_must (refine (HF.out _ ok _ _ _ _ _ _ (HC.out.old HO1.out)).mono ?_; rintro e w2 ⟨s, how, rfl, hs, ho2⟩; have HO2 := Lib.hid (HO1.out.trans ho2); have BR2 := Lib.hid (BR.out.old ho2); have bv := BV.out.old ho2; have y0 : w2.cell? ⟨w.heap.size + 1, 0, none⟩ = some (.int .i64 4) := bv.cell 0; have y1 : w2.cell? ⟨w.heap.size + 1, 1, none⟩ = some (.int .i64 hf) := bv.cell 1; have y2 : w2.cell? ⟨w.heap.size + 1, 2, none⟩ = some (.string tx) := bv.cell 2; have y3 : w2.cell? ⟨w.heap.size + 1, 3, none⟩ = some (.slice A1 n1 m1) := bv.cell 3; have y4 : w2.cell? ⟨w.heap.size + 1, 4, none⟩ = some (.slice A2 n2 m2) := bv.cell 4; have y5 : w2.cell? ⟨w.heap.size + 1, 5, none⟩ = some (.slice A3 n3 m3) := bv.cell 5; have ybl := bv.lt; have HS := Lib.hid hs; clear bv ho2 hs)))
    have bz := BR2.out
    have z0 : w2.cell? ⟨w.heap.size, 0, none⟩ = some (.int .i64 0) := bz.cell 0; have z1 : w2.cell? ⟨w.heap.size, 1, none⟩ = some (.int .i64 0) := bz.cell 1; have z2 : w2.cell? ⟨w.heap.size, 2, none⟩ = some (.string ⟨#[]⟩) := bz.cell 2; have z3 : w2.cell? ⟨w.heap.size, 3, none⟩ = some (.slice none 0 0) := bz.cell 3; have z4 : w2.cell? ⟨w.heap.size, 4, none⟩ = some (.slice none 0 0) := bz.cell 4; have z5 : w2.cell? ⟨w.heap.size, 5, none⟩ = some (.slice none 0 0) := bz.cell 5; have z6 : w2.cell? ⟨w.heap.size, 6, none⟩ = some (.int .i64 1) := bz.cell 6;
    have zbl := bz.lt
    clear bz
    rcases HS.out with ⟨rfl, g1, g2, hs0⟩ | ⟨rfl, g1⟩ | rfl
    · exfalso
      obtain ⟨x, hx, g3⟩ := HV.out g1
      have := g2 x hx
      omega
    · clear g1
      go_region_held3 (fun w' => w'.cell? ⟨w.heap.size, 0, none⟩ = some (.int .i64 0) ∧ w'.cell? ⟨w.heap.size, 1, none⟩ = some (.int .i64 0) ∧ w'.cell? ⟨w.heap.size, 2, none⟩ = some (.string ⟨#[]⟩) ∧ w'.cell? ⟨w.heap.size, 3, none⟩ = some (.slice none 0 0) ∧ w'.cell? ⟨w.heap.size, 4, none⟩ = some (.slice none 0 0) ∧ w'.cell? ⟨w.heap.size, 5, none⟩ = some (.slice none 0 0) ∧ w'.cell? ⟨w.heap.size, 6, none⟩ = some (.int .i64 1)) (go_keep) ((first | (go_at_call 16; refine (str_of _ _).mono ?_; rintro e w5 ⟨rfl, ho5⟩; have ho5b : Old w2 w5 := (by first | exact Old.trans ((Old.refl _).drew) ho5 | exact ho5); have HO5 := Lib.hid ho5b; have bz := BR2.out.old ho5b; have z0 : w5.cell? ⟨w.heap.size, 0, none⟩ = some (.int .i64 0) := bz.cell 0; have z1 : w5.cell? ⟨w.heap.size, 1, none⟩ = some (.int .i64 0) := bz.cell 1; have z2 : w5.cell? ⟨w.heap.size, 2, none⟩ = some (.string ⟨#[]⟩) := bz.cell 2; have z3 : w5.cell? ⟨w.heap.size, 3, none⟩ = some (.slice none 0 0) := bz.cell 3; have z4 : w5.cell? ⟨w.heap.size, 4, none⟩ = some (.slice none 0 0) := bz.cell 4; have z5 : w5.cell? ⟨w.heap.size, 5, none⟩ = some (.slice none 0 0) := bz.cell 5; have z6 : w5.cell? ⟨w.heap.size, 6, none⟩ = some (.int .i64 1) := bz.cell 6; have zbl := bz.lt; clear bz ho5 ho5b) | (go_at_call 15; refine (told_err _ _ _ _ _ _ _).mono ?_; rintro e w6 ⟨rfl, ho6⟩; have ho6b := HO5.out.trans ho6; have HO6 := Lib.hid (HO2.out.trans ho6b); have bz := BR2.out.old ho6b; have z0 : w6.cell? ⟨w.heap.size, 0, none⟩ = some (.int .i64 0) := bz.cell 0; have z1 : w6.cell? ⟨w.heap.size, 1, none⟩ = some (.int .i64 0) := bz.cell 1; have z2 : w6.cell? ⟨w.heap.size, 2, none⟩ = some (.string ⟨#[]⟩) := bz.cell 2; have z3 : w6.cell? ⟨w.heap.size, 3, none⟩ = some (.slice none 0 0) := bz.cell 3; have z4 : w6.cell? ⟨w.heap.size, 4, none⟩ = some (.slice none 0 0) := bz.cell 4; have z5 : w6.cell? ⟨w.heap.size, 5, none⟩ = some (.slice none 0 0) := bz.cell 5; have z6 : w6.cell? ⟨w.heap.size, 6, none⟩ = some (.int .i64 1) := bz.cell 6; have zbl := bz.lt; clear bz ho6 ho6b)))
      go_wp2
      go_ret
      exact ⟨rfl, HO6.out⟩
    · skip
      go_region_held3 (fun w' => w'.cell? ⟨w.heap.size, 0, none⟩ = some (.int .i64 0) ∧ w'.cell? ⟨w.heap.size, 1, none⟩ = some (.int .i64 0) ∧ w'.cell? ⟨w.heap.size, 2, none⟩ = some (.string ⟨#[]⟩) ∧ w'.cell? ⟨w.heap.size, 3, none⟩ = some (.slice none 0 0) ∧ w'.cell? ⟨w.heap.size, 4, none⟩ = some (.slice none 0 0) ∧ w'.cell? ⟨w.heap.size, 5, none⟩ = some (.slice none 0 0) ∧ w'.cell? ⟨w.heap.size, 6, none⟩ = some (.int .i64 1)) (go_keep) ((first | (go_at_call 16; refine (str_of _ _).mono ?_; rintro e w5 ⟨rfl, ho5⟩; have ho5b : Old w2 w5 := (by first | exact Old.trans ((Old.refl _).drew) ho5 | exact ho5); have HO5 := Lib.hid ho5b; have bz := BR2.out.old ho5b; have z0 : w5.cell? ⟨w.heap.size, 0, none⟩ = some (.int .i64 0) := bz.cell 0; have z1 : w5.cell? ⟨w.heap.size, 1, none⟩ = some (.int .i64 0) := bz.cell 1; have z2 : w5.cell? ⟨w.heap.size, 2, none⟩ = some (.string ⟨#[]⟩) := bz.cell 2; have z3 : w5.cell? ⟨w.heap.size, 3, none⟩ = some (.slice none 0 0) := bz.cell 3; have z4 : w5.cell? ⟨w.heap.size, 4, none⟩ = some (.slice none 0 0) := bz.cell 4; have z5 : w5.cell? ⟨w.heap.size, 5, none⟩ = some (.slice none 0 0) := bz.cell 5; have z6 : w5.cell? ⟨w.heap.size, 6, none⟩ = some (.int .i64 1) := bz.cell 6; have zbl := bz.lt; clear bz ho5 ho5b) | (go_at_call 15; refine (told_silent _ _ _ _ _ _ _ _ _ _ _ _ _ _).mono ?_; rintro e w6 ⟨rfl, ho6⟩; have ho6b := HO5.out.trans ho6; have HO6 := Lib.hid (HO2.out.trans ho6b); have bz := BR2.out.old ho6b; have z0 : w6.cell? ⟨w.heap.size, 0, none⟩ = some (.int .i64 0) := bz.cell 0; have z1 : w6.cell? ⟨w.heap.size, 1, none⟩ = some (.int .i64 0) := bz.cell 1; have z2 : w6.cell? ⟨w.heap.size, 2, none⟩ = some (.string ⟨#[]⟩) := bz.cell 2; have z3 : w6.cell? ⟨w.heap.size, 3, none⟩ = some (.slice none 0 0) := bz.cell 3; have z4 : w6.cell? ⟨w.heap.size, 4, none⟩ = some (.slice none 0 0) := bz.cell 4; have z5 : w6.cell? ⟨w.heap.size, 5, none⟩ = some (.slice none 0 0) := bz.cell 5; have z6 : w6.cell? ⟨w.heap.size, 6, none⟩ = some (.int .i64 1) := bz.cell 6; have zbl := bz.lt; clear bz ho6 ho6b)))
      go_wp2
      go_ret
      exact ⟨rfl, HO6.out⟩
  · have h4b : (kd == 4) = false := by simpa using h4
    go_enter Tryz.func7, Tryz.ntmps7
    go_upto_region 1 with (fail)
    rw [← hw1]
    clear hw1
    go_upto_region 4 with (first | (go_at_call 13; go_must (refine (HF.out _ ok _ _ _ _ _ _ (HC.out.old HO1.out)).mono ?_; rintro e w2 ⟨s, how, rfl, hs, ho2⟩; have HO2 := Lib.hid (HO1.out.trans ho2); have BR2 := Lib.hid (BR.out.old ho2); have bv := BV.out.old ho2; have y0 : w2.cell? ⟨w.heap.size + 1, 0, none⟩ = some (.int .i64 kd) := bv.cell 0; have y1 : w2.cell? ⟨w.heap.size + 1, 1, none⟩ = some (.int .i64 hf) := bv.cell 1; have y2 : w2.cell? ⟨w.heap.size + 1, 2, none⟩ = some (.string tx) := bv.cell 2; have y3 : w2.cell? ⟨w.heap.size + 1, 3, none⟩ = some (.slice A1 n1 m1) := bv.cell 3; have y4 : w2.cell? ⟨w.heap.size + 1, 4, none⟩ = some (.slice A2 n2 m2) := bv.cell 4; have y5 : w2.cell? ⟨w.heap.size + 1, 5, none⟩ = some (.slice A3 n3 m3) := bv.cell 5; have ybl := bv.lt; have HS := Lib.hid hs; clear bv ho2 hs)) | (go_at_call 14; go_must (refine (HCTL.out _ ok _ _ _ _ _ _ (HC.out.old HO2.out)).mono ?_; rintro e w3 ⟨b3, rfl, ho3⟩; have HO3 := Lib.hid (HO2.out.trans ho3); have BR3 := Lib.hid (BR2.out.old ho3); clear ho3; cases b3)))
    all_goals
      have bz := BR3.out
      have z0 : w3.cell? ⟨w.heap.size, 0, none⟩ = some (.int .i64 0) := bz.cell 0; have z1 : w3.cell? ⟨w.heap.size, 1, none⟩ = some (.int .i64 0) := bz.cell 1; have z2 : w3.cell? ⟨w.heap.size, 2, none⟩ = some (.string ⟨#[]⟩) := bz.cell 2; have z3 : w3.cell? ⟨w.heap.size, 3, none⟩ = some (.slice none 0 0) := bz.cell 3; have z4 : w3.cell? ⟨w.heap.size, 4, none⟩ = some (.slice none 0 0) := bz.cell 4; have z5 : w3.cell? ⟨w.heap.size, 5, none⟩ = some (.slice none 0 0) := bz.cell 5; have z6 : w3.cell? ⟨w.heap.size, 6, none⟩ = some (.int .i64 1) := bz.cell 6;
      have zbl := bz.lt
      clear bz
      rcases HS.out with ⟨rfl, g1, g2, hs0⟩ | ⟨rfl, g1⟩ | rfl
      · exfalso
        obtain ⟨x, hx, g3⟩ := HV.out g1
        have := g2 x hx
        omega
      · clear g1
        go_region_held3 (fun w' => w'.cell? ⟨w.heap.size, 0, none⟩ = some (.int .i64 0) ∧ w'.cell? ⟨w.heap.size, 1, none⟩ = some (.int .i64 0) ∧ w'.cell? ⟨w.heap.size, 2, none⟩ = some (.string ⟨#[]⟩) ∧ w'.cell? ⟨w.heap.size, 3, none⟩ = some (.slice none 0 0) ∧ w'.cell? ⟨w.heap.size, 4, none⟩ = some (.slice none 0 0) ∧ w'.cell? ⟨w.heap.size, 5, none⟩ = some (.slice none 0 0) ∧ w'.cell? ⟨w.heap.size, 6, none⟩ = some (.int .i64 1)) (go_keep) ((first | (go_at_call 16; refine (str_of _ _).mono ?_; rintro e w5 ⟨rfl, ho5⟩; have ho5b : Old w3 w5 := (by first | exact Old.trans ((Old.refl _).drew) ho5 | exact ho5); have HO5 := Lib.hid ho5b; have bz := BR3.out.old ho5b; have z0 : w5.cell? ⟨w.heap.size, 0, none⟩ = some (.int .i64 0) := bz.cell 0; have z1 : w5.cell? ⟨w.heap.size, 1, none⟩ = some (.int .i64 0) := bz.cell 1; have z2 : w5.cell? ⟨w.heap.size, 2, none⟩ = some (.string ⟨#[]⟩) := bz.cell 2; have z3 : w5.cell? ⟨w.heap.size, 3, none⟩ = some (.slice none 0 0) := bz.cell 3; have z4 : w5.cell? ⟨w.heap.size, 4, none⟩ = some (.slice none 0 0) := bz.cell 4; have z5 : w5.cell? ⟨w.heap.size, 5, none⟩ = some (.slice none 0 0) := bz.cell 5; have z6 : w5.cell? ⟨w.heap.size, 6, none⟩ = some (.int .i64 1) := bz.cell 6; have zbl := bz.lt; clear bz ho5 ho5b) | (go_at_call 15; refine (told_err _ _ _ _ _ _ _).mono ?_; rintro e w6 ⟨rfl, ho6⟩; have ho6b := HO5.out.trans ho6; have HO6 := Lib.hid (HO3.out.trans ho6b); have bz := BR3.out.old ho6b; have z0 : w6.cell? ⟨w.heap.size, 0, none⟩ = some (.int .i64 0) := bz.cell 0; have z1 : w6.cell? ⟨w.heap.size, 1, none⟩ = some (.int .i64 0) := bz.cell 1; have z2 : w6.cell? ⟨w.heap.size, 2, none⟩ = some (.string ⟨#[]⟩) := bz.cell 2; have z3 : w6.cell? ⟨w.heap.size, 3, none⟩ = some (.slice none 0 0) := bz.cell 3; have z4 : w6.cell? ⟨w.heap.size, 4, none⟩ = some (.slice none 0 0) := bz.cell 4; have z5 : w6.cell? ⟨w.heap.size, 5, none⟩ = some (.slice none 0 0) := bz.cell 5; have z6 : w6.cell? ⟨w.heap.size, 6, none⟩ = some (.int .i64 1) := bz.cell 6; have zbl := bz.lt; clear bz ho6 ho6b)))
        go_wp2
        go_ret
        exact ⟨rfl, HO6.out⟩
      · skip
        go_region_held3 (fun w' => w'.cell? ⟨w.heap.size, 0, none⟩ = some (.int .i64 0) ∧ w'.cell? ⟨w.heap.size, 1, none⟩ = some (.int .i64 0) ∧ w'.cell? ⟨w.heap.size, 2, none⟩ = some (.string ⟨#[]⟩) ∧ w'.cell? ⟨w.heap.size, 3, none⟩ = some (.slice none 0 0) ∧ w'.cell? ⟨w.heap.size, 4, none⟩ = some (.slice none 0 0) ∧ w'.cell? ⟨w.heap.size, 5, none⟩ = some (.slice none 0 0) ∧ w'.cell? ⟨w.heap.size, 6, none⟩ = some (.int .i64 1)) (go_keep) ((first | (go_at_call 16; refine (str_of _ _).mono ?_; rintro e w5 ⟨rfl, ho5⟩; have ho5b : Old w3 w5 := (by first | exact Old.trans ((Old.refl _).drew) ho5 | exact ho5); have HO5 := Lib.hid ho5b; have bz := BR3.out.old ho5b; have z0 : w5.cell? ⟨w.heap.size, 0, none⟩ = some (.int .i64 0) := bz.cell 0; have z1 : w5.cell? ⟨w.heap.size, 1, none⟩ = some (.int .i64 0) := bz.cell 1; have z2 : w5.cell? ⟨w.heap.size, 2, none⟩ = some (.string ⟨#[]⟩) := bz.cell 2; have z3 : w5.cell? ⟨w.heap.size, 3, none⟩ = some (.slice none 0 0) := bz.cell 3; have z4 : w5.cell? ⟨w.heap.size, 4, none⟩ = some (.slice none 0 0) := bz.cell 4; have z5 : w5.cell? ⟨w.heap.size, 5, none⟩ = some (.slice none 0 0) := bz.cell 5; have z6 : w5.cell? ⟨w.heap.size, 6, none⟩ = some (.int .i64 1) := bz.cell 6; have zbl := bz.lt; clear bz ho5 ho5b) | (go_at_call 15; refine (told_silent _ _ _ _ _ _ _ _ _ _ _ _ _ _).mono ?_; rintro e w6 ⟨rfl, ho6⟩; have ho6b := HO5.out.trans ho6; have HO6 := Lib.hid (HO3.out.trans ho6b); have bz := BR3.out.old ho6b; have z0 : w6.cell? ⟨w.heap.size, 0, none⟩ = some (.int .i64 0) := bz.cell 0; have z1 : w6.cell? ⟨w.heap.size, 1, none⟩ = some (.int .i64 0) := bz.cell 1; have z2 : w6.cell? ⟨w.heap.size, 2, none⟩ = some (.string ⟨#[]⟩) := bz.cell 2; have z3 : w6.cell? ⟨w.heap.size, 3, none⟩ = some (.slice none 0 0) := bz.cell 3; have z4 : w6.cell? ⟨w.heap.size, 4, none⟩ = some (.slice none 0 0) := bz.cell 4; have z5 : w6.cell? ⟨w.heap.size, 5, none⟩ = some (.slice none 0 0) := bz.cell 5; have z6 : w6.cell? ⟨w.heap.size, 6, none⟩ = some (.int .i64 1) := bz.cell 6; have zbl := bz.lt; clear bz ho6 ho6b)))
        go_wp2
        go_ret
        exact ⟨rfl, HO6.out⟩
end Go.Proofs.YthggnkmlnjlggaaGreatDoor
