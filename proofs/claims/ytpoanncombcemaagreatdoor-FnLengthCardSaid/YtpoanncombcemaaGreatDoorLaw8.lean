/-
  Length is the number of elements, of keys, or of code points; 0 of null; of a number its absolute value; of a boolean an error: the walk.
  Conditions: none.
-/
import Derived.Test.YtpoanncombcemaaGreatDoorLenB
import Derived.Test.YtpoanncombcemaaGreatDoorCall
import Derived.Test.YtpoanncombcemaaGreatDoorLaid
import Derived.Deep.DrawnRows
namespace Go.Proofs.YtpoanncombcemaaGreatDoor
open Go.RowKit
attribute [local go_sem ↓] Go.wp_at_zero Go.wp_at_succ

theorem AnyL.nxt {P : Program} {ops : Array Oper} {Q : Exit → Act → World → Prop} {md : Region.Mode} {S : Array Bool → World → Prop} {fuel : Nat} {l : Array Bool} {a : Act} {w : World} (i : Nat) (hr : Region.ready md ops l = [i]) (hC : Closed md ops l)
    (h : ∀ o, ops[i]? = some o → ∀ K' : Act → World → Prop, Shut (∀ a w, S (l.setIfInBounds i true) w → (Closed md ops (l.setIfInBounds i true) → S (l.setIfInBounds i true) w → AnyL P md ops Q S fuel (l.setIfInBounds i true) a w) → K' a w) → if Region.wanted o (yielded ops a.tmps) = true then Oper.wp P o a w K' Q else K' (a.put o.dst undef) w) :
    AnyL P md ops Q S (fuel + 1) l a w := by
  have hi : i ∈ Region.ready md ops l := by rw [hr]; simp
  obtain ⟨_, o, ho, _⟩ := mem_ready.1 hi
  exact AnyL.one o hr ho hC (h o ho)
theorem one_list {w : World} {ok : Nat → Prop} {a : V} {c0 c1 c2 c3 c4 c5 : Value} (h : KV w ok a [c0, c1, c2, c3, c4, c5]) (W : World) (hW : Old w W) :
    KVs (W.alloc (.cells #[c0, c1, c2, c3, c4, c5] 27)) (fun _ => True) [a] (.slice (some ⟨W.heap.size, 0, none⟩) 1 1) := by
  refine ⟨fun _ => [c0, c1, c2, c3, c4, c5], ⟨_, _, rfl, Nat.le_refl _, (fun h => by (cases h)), fun _ => ⟨W.heap.size, 0, _, _, _, rfl, trivial, Blk.new W _ _, fun i hi => ⟨rfl, fun j hj => ?_⟩⟩⟩, fun i hi => ?_⟩
  · obtain rfl : i = 0 := by simpa using hi
    match j, hj with
    | 0, _ => rfl
    | 1, _ => rfl
    | 2, _ => rfl
    | 3, _ => rfl
    | 4, _ => rfl
    | 5, _ => rfl
  · obtain rfl : i = 0 := by simpa using hi
    exact ((h.old hW).old ((Old.refl W).alloc _)).mono fun _ _ _ => trivial
/-- Two blocks lie as they lay. -/
def Duo (g : Nat) (a : Array Value) (g' : Nat) (b : Array Value) (w : World) : Prop := Blk w g a 27 ∧ Blk w g' b 27

theorem size_gives {v : V} (hg : Good v) (h1 : v.kind ≠ 1) (h2 : v.kind ≠ 2) (ht : v.text.size ≤ 2147483647) (w : World) (ok ok' : Nat → Prop) (c0 c1 c2 c3 c4 c5 : Value) (hc : KV w ok v [c0, c1, c2, c3, c4, c5]) :
    Calls Tryz.prog 42 #[.agg #[c0, c1, c2, c3, c4, c5]] w (Gives ok' (lenV v) 0 w) := by
  have h := size_any hg ht w ok c0 c1 c2 c3 c4 c5 hc
  rw [if_neg (by omega)] at h
  refine h.mono fun e w' ⟨he, ho⟩ => ⟨_, _, _, _, _, _, he, KV.leaf _ _ _ _ _, ho⟩
theorem size_raises {v : V} (hg : Good v) (h : v.kind = 1 ∨ v.kind = 2) (ht : v.text.size ≤ 2147483647) (w : World) (ok ok' : Nat → Prop) (c0 c1 c2 c3 c4 c5 : Value) (hc : KV w ok v [c0, c1, c2, c3, c4, c5]) :
    Calls Tryz.prog 42 #[.agg #[c0, c1, c2, c3, c4, c5]] w (Gives ok' V.null 1 w) := by
  have hh := size_any hg ht w ok c0 c1 c2 c3 c4 c5 hc
  rw [if_pos h] at hh
  refine hh.mono fun e w' ⟨he, ho⟩ => ⟨_, _, _, _, _, _, he, KV.null _ _, ho⟩
theorem call_fine {v : V} (hg : Good v) (h1 : v.kind ≠ 1) (h2 : v.kind ≠ 2) (ht : v.text.size ≤ 2147483647) (w : World) (ok : Nat → Prop) (c0 c1 c2 c3 c4 c5 : Value) (hc : KV w ok v [c0, c1, c2, c3, c4, c5]) :
    Calls Tryz.prog 9 #[.string ⟨#[108, 101, 110, 103, 116, 104]⟩, .agg #[c0, c1, c2, c3, c4, c5], .slice none 0 0] w (Gives ok (lenV v) 0 w) :=
  call_length hg w ok c0 c1 c2 c3 c4 c5 hc fun W hW => alone_length W _ c0 c1 c2 c3 c4 c5 hW fun W2 hW2 => size_gives hg h1 h2 ht W2 _ _ c0 c1 c2 c3 c4 c5 hW2
theorem call_raises {v : V} (hg : Good v) (h : v.kind = 1 ∨ v.kind = 2) (ht : v.text.size ≤ 2147483647) (w : World) (ok : Nat → Prop) (c0 c1 c2 c3 c4 c5 : Value) (hc : KV w ok v [c0, c1, c2, c3, c4, c5]) :
    Calls Tryz.prog 9 #[.string ⟨#[108, 101, 110, 103, 116, 104]⟩, .agg #[c0, c1, c2, c3, c4, c5], .slice none 0 0] w (Gives ok V.null 1 w) :=
  call_length hg w ok c0 c1 c2 c3 c4 c5 hc fun W hW => alone_length W _ c0 c1 c2 c3 c4 c5 hW fun W2 hW2 => size_raises hg h ht W2 _ _ c0 c1 c2 c3 c4 c5 hW2

set_option maxHeartbeats 4000000 in
set_option maxRecDepth 100000 in
theorem law8_any {a : V} (ha : Sized a) (w : World) (ok : Nat → Prop) (c0 c1 c2 c3 c4 c5 : Value) (hc : KV w ok a [c0, c1, c2, c3, c4, c5]) (hT : Tabs w) :
    Calls Tryz.prog 4 #[.agg #[c0, c1, c2, c3, c4, c5]] w (Yes w) := by
  obtain ⟨A1, n1, m1, A2, n2, m2, A3, n3, m3, rfl, rfl, rfl, rfl, rfl, rfl⟩ := shape hc
  obtain ⟨ka, hka⟩ : ∃ x, x = a.kind := ⟨_, rfl⟩
  obtain ⟨fa, hfa⟩ : ∃ x, x = a.half := ⟨_, rfl⟩
  obtain ⟨ta, hta⟩ : ∃ x, x = a.text := ⟨_, rfl⟩
  rw [← hka, ← hfa, ← hta] at hc ⊢
  have C := Lib.hid hc
  have HT := Lib.hid hT
  have HA := Lib.hid ha
  have KA := Lib.hid hka
  have hsz : ∀ x ∈ [a], Sized x := fun x hx => by
    obtain rfl := List.mem_singleton.1 hx
    exact ha
  have HS := Lib.hid hsz
  have HO := Lib.hid ((Old.refl w).alloc (.cells #[.int .i64 ka, .int .i64 fa, .string ta, .slice A1 n1 m1, .slice A2 n2 m2, .slice A3 n3 m3] 27))
  have BA := Lib.hid (Blk.new w #[.int .i64 ka, .int .i64 fa, .string ta, .slice A1 n1 m1, .slice A2 n2 m2, .slice A3 n3 m3] 27)
  clear hc hT ha hka hfa hta hsz
  by_cases h : ka = 1 ∨ ka = 2
  · have h12 := Lib.hid (show a.kind = 1 ∨ a.kind = 2 by rw [← KA.out]; exact h)
    clear h
    go_enter Tryz.func4, Tryz.ntmps4
    go_upto_region 8 with (first
      | (go_at_call 12; go_must (refine (fits1_any a HA.out _ ok _ _ _ _ _ _ (C.out.old HO.out)).mono ?_; rintro e w1 ⟨b1, rfl, ho1, hx1⟩; have HO1 := Lib.hid ho1; have HX := Lib.hid hx1; have bA := BA.out.old HO1.out; have x0 : w1.cell? ⟨w.heap.size, 0, none⟩ = some (.int .i64 ka) := bA.cell 0; have x1 : w1.cell? ⟨w.heap.size, 1, none⟩ = some (.int .i64 fa) := bA.cell 1; have x2 : w1.cell? ⟨w.heap.size, 2, none⟩ = some (.string ta) := bA.cell 2; have x3 : w1.cell? ⟨w.heap.size, 3, none⟩ = some (.slice A1 n1 m1) := bA.cell 3; have x4 : w1.cell? ⟨w.heap.size, 4, none⟩ = some (.slice A2 n2 m2) := bA.cell 4; have x5 : w1.cell? ⟨w.heap.size, 5, none⟩ = some (.slice A3 n3 m3) := bA.cell 5; have hl : w.heap.size < w1.heap.size := bA.lt; clear bA; clear ho1 hx1; cases b1))
      | (go_at_call 7; go_must (refine (fits_any HS.out (by simp) _ _ _ (one_list C.out _ (HO.out.trans HO1.out)) (HT.out.old ((HO.out.trans HO1.out).alloc _))).mono ?_; rintro e w2 ⟨b2, rfl, ho2, hg2⟩; have HO2 := Lib.hid (HO1.out.trans (((Old.refl w1).alloc _).trans ho2)); have HG := Lib.hid hg2; clear x0 x1 x2 x3 x4 x5 hl; have bAb := BA.out.old HO2.out; have x0b : w2.cell? ⟨w.heap.size, 0, none⟩ = some (.int .i64 ka) := bAb.cell 0; have x1b : w2.cell? ⟨w.heap.size, 1, none⟩ = some (.int .i64 fa) := bAb.cell 1; have x2b : w2.cell? ⟨w.heap.size, 2, none⟩ = some (.string ta) := bAb.cell 2; have x3b : w2.cell? ⟨w.heap.size, 3, none⟩ = some (.slice A1 n1 m1) := bAb.cell 3; have x4b : w2.cell? ⟨w.heap.size, 4, none⟩ = some (.slice A2 n2 m2) := bAb.cell 4; have x5b : w2.cell? ⟨w.heap.size, 5, none⟩ = some (.slice A3 n3 m3) := bAb.cell 5; have hlb : w.heap.size < w2.heap.size := bAb.lt; clear bAb; clear ho2 hg2; cases b2))
      | (go_at_call 9; go_must (refine (call_raises (HG.out trivial a (by simp)).1 (h12.out) (HX.out trivial) _ ok _ _ _ _ _ _ (C.out.old (HO.out.trans HO2.out))).mono ?_; rintro e w3 ⟨g0, g1, g2, g3, g4, g5, rfl, hk, ho3⟩; have HO3 := Lib.hid (HO2.out.trans ho3); obtain ⟨E1, q1, r1, E2, q2, r2, E3, q3, r3, rfl, rfl, rfl, rfl, rfl, rfl⟩ := shape hk; obtain ⟨ke, hke⟩ : ∃ x, x = V.null.kind := ⟨_, rfl⟩; obtain ⟨fe, hfe⟩ : ∃ x, x = V.null.half := ⟨_, rfl⟩; obtain ⟨te, hte⟩ : ∃ x, x = V.null.text := ⟨_, rfl⟩; rw [← hke, ← hfe, ← hte] at hk ⊢; have HK := Lib.hid (KV.any hk); clear x0b x1b x2b x3b x4b x5b hlb; have bAc := BA.out.old HO3.out; have x0c : w3.cell? ⟨w.heap.size, 0, none⟩ = some (.int .i64 ka) := bAc.cell 0; have x1c : w3.cell? ⟨w.heap.size, 1, none⟩ = some (.int .i64 fa) := bAc.cell 1; have x2c : w3.cell? ⟨w.heap.size, 2, none⟩ = some (.string ta) := bAc.cell 2; have x3c : w3.cell? ⟨w.heap.size, 3, none⟩ = some (.slice A1 n1 m1) := bAc.cell 3; have x4c : w3.cell? ⟨w.heap.size, 4, none⟩ = some (.slice A2 n2 m2) := bAc.cell 4; have x5c : w3.cell? ⟨w.heap.size, 5, none⟩ = some (.slice A3 n3 m3) := bAc.cell 5; have hlc : w.heap.size < w3.heap.size := bAc.lt; clear bAc; clear hk hke hfe hte ho3)))
    all_goals first
      | (go_ret; first | exact ⟨rfl, HO.out.trans HO2.out⟩ | exact ⟨rfl, HO.out.trans HO1.out⟩)
      | skip
    have HW := Lib.hid ((HO.out.trans HO3.out).alloc (.cells #[.int .i64 ke, .int .i64 fe, .string te, .slice E1 q1 r1, .slice E2 q2 r2, .slice E3 q3 r3] 27)).drew
    have hB : Duo w.heap.size #[.int .i64 ka, .int .i64 fa, .string ta, .slice A1 n1 m1, .slice A2 n2 m2, .slice A3 n3 m3] w3.heap.size #[.int .i64 ke, .int .i64 fe, .string te, .slice E1 q1 r1, .slice E2 q2 r2, .slice E3 q3 r3] (w3.alloc (.cells #[.int .i64 ke, .int .i64 fe, .string te, .slice E1 q1 r1, .slice E2 q2 r2, .slice E3 q3 r3] 27)).drew := ⟨((BA.out.old HO3.out).alloc _).drew, (Blk.new w3 _ _).drew⟩
    have hg := (HG.out trivial a (by simp)).1
    have GA := Lib.hid hg
    have HB8 := Lib.hid hB
    clear x0c x1c x2c x3c x4c x5c hlc hg
    refine AnyL.region 6 (S := Til 4 (Duo w.heap.size #[.int .i64 ka, .int .i64 fa, .string ta, .slice A1 n1 m1, .slice A2 n2 m2, .slice A3 n3 m3] w3.heap.size #[.int .i64 ke, .int .i64 fe, .string te, .slice E1 q1 r1, .slice E2 q2 r2, .slice E3 q3 r3])) rfl (by kernel_rfl) (fun hC => ?_)
    have hS : Til 4 (Duo w.heap.size #[.int .i64 ka, .int .i64 fa, .string ta, .slice A1 n1 m1, .slice A2 n2 m2, .slice A3 n3 m3] w3.heap.size #[.int .i64 ke, .int .i64 fe, .string te, .slice E1 q1 r1, .slice E2 q2 r2, .slice E3 q3 r3]) (Array.replicate 6 false) (w3.alloc (.cells #[.int .i64 ke, .int .i64 fe, .string te, .slice E1 q1 r1, .slice E2 q2 r2, .slice E3 q3 r3] 27)).drew := Til.mk hB
    clear hB
    refine AnyL.take (i := 0) (v := .agg #[.int .i64 ka, .int .i64 fa, .string ta, .slice A1 n1 m1, .slice A2 n2 m2, .slice A3 n3 m3]) (some 19) (Duo w.heap.size #[.int .i64 ka, .int .i64 fa, .string ta, .slice A1 n1 m1, .slice A2 n2 m2, .slice A3 n3 m3] w3.heap.size #[.int .i64 ke, .int .i64 fe, .string te, .slice E1 q1 r1, .slice E2 q2 r2, .slice E3 q3 r3]) rfl (by kernel_rfl) (by kernel_rfl) (by kernel_rfl) (fun _ _ _ h => h) (fun l w' hC hl hS => hS (hC.un (j := 4) (i := 1) (by kernel_rfl) (hC.un (j := 1) (i := 0) (by kernel_rfl) hl))) (fun l w' => Til.set (by decide) l w') (fun _ ho => by cases ho; exact Or.inl ⟨by rfl, fun w' hB => by have h0 := hB.1.cell 0; have h1 := hB.1.cell 1; have h2 := hB.1.cell 2; have h3 := hB.1.cell 3; have h4 := hB.1.cell 4; have h5 := hB.1.cell 5; go_simp⟩) hC hS (fun hC hS => ?_)
    simp only [Act.put, List.setIfInBounds_toArray, List.set_cons_zero, List.set_cons_succ]
    refine AnyL.take (i := 2) (v := .agg #[.int .i64 ke, .int .i64 fe, .string te, .slice E1 q1 r1, .slice E2 q2 r2, .slice E3 q3 r3]) (some 21) (Duo w.heap.size #[.int .i64 ka, .int .i64 fa, .string ta, .slice A1 n1 m1, .slice A2 n2 m2, .slice A3 n3 m3] w3.heap.size #[.int .i64 ke, .int .i64 fe, .string te, .slice E1 q1 r1, .slice E2 q2 r2, .slice E3 q3 r3]) rfl (by kernel_rfl) (by kernel_rfl) (by kernel_rfl) (fun _ _ _ h => h) (fun l w' hC hl hS => hS (hC.un (j := 4) (i := 2) (by kernel_rfl) hl)) (fun l w' => Til.set (by decide) l w') (fun _ ho => by cases ho; exact Or.inl ⟨by rfl, fun w' hB => by have h0 := hB.2.cell 0; have h1 := hB.2.cell 1; have h2 := hB.2.cell 2; have h3 := hB.2.cell 3; have h4 := hB.2.cell 4; have h5 := hB.2.cell 5; go_simp⟩) hC hS (fun hC hS => ?_)
    simp only [Act.put, List.setIfInBounds_toArray, List.set_cons_zero, List.set_cons_succ]
    refine AnyL.take (i := 3) (v := .int .i64 1) (some 22) (fun _ => True) rfl (by kernel_rfl) (by kernel_rfl) (by kernel_rfl) (fun _ _ _ h => h) (fun _ _ _ _ _ => trivial) (fun l w' => Til.set (by decide) l w') (fun _ ho => by cases ho; exact Or.inl ⟨by rfl, fun w' _ => by go_simp⟩) hC hS (fun hC hS => ?_)
    simp only [Act.put, List.setIfInBounds_toArray, List.set_cons_zero, List.set_cons_succ]
    refine AnyL.nxt 1 (by kernel_rfl) hC (fun o ho K hK => ?_)
    cases ho
    go_simp
    refine (length_wrong GA.out h12.out _ ok _ _ _ _ _ _ (C.out.old HW.out)).mono ?_
    rintro e w5 ⟨rfl, ho5⟩
    have HO5 := Lib.hid ho5
    clear ho5
    refine hK.out _ _ (Til.mk ⟨HB8.out.1.old HO5.out, HB8.out.2.old HO5.out⟩) (fun hC hS => ?_)
    clear hK K
    have hh := told_err w5 (.int .i64 ke) (.int .i64 fe) (.string te) (.slice E1 q1 r1) (.slice E2 q2 r2) (.slice E3 q3 r3)
    have HH := Lib.hid hh
    clear hh
    refine AnyL.nxt 4 (by kernel_rfl) hC (fun o ho K hK => ?_)
    cases ho
    go_simp
    refine HH.out.mono ?_
    rintro e w6 ⟨rfl, ho6⟩
    have HO6 := Lib.hid ho6
    clear ho6
    refine hK.out _ _ (Til.late (by rfl)) (fun hC hS => ?_)
    clear hK K
    refine AnyL.take (i := 5) (v := .bool true) (some 2) (fun _ => True) rfl (by kernel_rfl) (by kernel_rfl) (by kernel_rfl) (fun _ _ _ h => h) (fun _ _ _ _ _ => trivial) (fun l w' => Til.set (by decide) l w') (fun _ ho => by cases ho; exact Or.inl ⟨by rfl, fun w' _ => by go_simp⟩) hC hS (fun hC hS => ?_)
    simp only [Act.put, List.setIfInBounds_toArray, List.set_cons_zero, List.set_cons_succ]
    refine AnyL.done (by kernel_rfl) ?_ _
    clear hC hS
    go_wp2
    go_ret
    exact ⟨rfl, HW.out.trans (HO5.out.trans HO6.out)⟩
  · have h1 := Lib.hid (show a.kind ≠ 1 by rw [← KA.out]; omega)
    have h2 := Lib.hid (show a.kind ≠ 2 by rw [← KA.out]; omega)
    clear h
    go_enter Tryz.func4, Tryz.ntmps4
    go_upto_region 8 with (first
      | (go_at_call 12; go_must (refine (fits1_any a HA.out _ ok _ _ _ _ _ _ (C.out.old HO.out)).mono ?_; rintro e w1 ⟨b1, rfl, ho1, hx1⟩; have HO1 := Lib.hid ho1; have HX := Lib.hid hx1; have bA := BA.out.old HO1.out; have x0 : w1.cell? ⟨w.heap.size, 0, none⟩ = some (.int .i64 ka) := bA.cell 0; have x1 : w1.cell? ⟨w.heap.size, 1, none⟩ = some (.int .i64 fa) := bA.cell 1; have x2 : w1.cell? ⟨w.heap.size, 2, none⟩ = some (.string ta) := bA.cell 2; have x3 : w1.cell? ⟨w.heap.size, 3, none⟩ = some (.slice A1 n1 m1) := bA.cell 3; have x4 : w1.cell? ⟨w.heap.size, 4, none⟩ = some (.slice A2 n2 m2) := bA.cell 4; have x5 : w1.cell? ⟨w.heap.size, 5, none⟩ = some (.slice A3 n3 m3) := bA.cell 5; have hl : w.heap.size < w1.heap.size := bA.lt; clear bA; clear ho1 hx1; cases b1))
      | (go_at_call 7; go_must (refine (fits_any HS.out (by simp) _ _ _ (one_list C.out _ (HO.out.trans HO1.out)) (HT.out.old ((HO.out.trans HO1.out).alloc _))).mono ?_; rintro e w2 ⟨b2, rfl, ho2, hg2⟩; have HO2 := Lib.hid (HO1.out.trans (((Old.refl w1).alloc _).trans ho2)); have HG := Lib.hid hg2; clear x0 x1 x2 x3 x4 x5 hl; have bAb := BA.out.old HO2.out; have x0b : w2.cell? ⟨w.heap.size, 0, none⟩ = some (.int .i64 ka) := bAb.cell 0; have x1b : w2.cell? ⟨w.heap.size, 1, none⟩ = some (.int .i64 fa) := bAb.cell 1; have x2b : w2.cell? ⟨w.heap.size, 2, none⟩ = some (.string ta) := bAb.cell 2; have x3b : w2.cell? ⟨w.heap.size, 3, none⟩ = some (.slice A1 n1 m1) := bAb.cell 3; have x4b : w2.cell? ⟨w.heap.size, 4, none⟩ = some (.slice A2 n2 m2) := bAb.cell 4; have x5b : w2.cell? ⟨w.heap.size, 5, none⟩ = some (.slice A3 n3 m3) := bAb.cell 5; have hlb : w.heap.size < w2.heap.size := bAb.lt; clear bAb; clear ho2 hg2; cases b2))
      | (go_at_call 9; go_must (refine (call_fine (HG.out trivial a (by simp)).1 (h1.out) (h2.out) (HX.out trivial) _ ok _ _ _ _ _ _ (C.out.old (HO.out.trans HO2.out))).mono ?_; rintro e w3 ⟨g0, g1, g2, g3, g4, g5, rfl, hk, ho3⟩; have HO3 := Lib.hid (HO2.out.trans ho3); obtain ⟨E1, q1, r1, E2, q2, r2, E3, q3, r3, rfl, rfl, rfl, rfl, rfl, rfl⟩ := shape hk; obtain ⟨ke, hke⟩ : ∃ x, x = (lenV a).kind := ⟨_, rfl⟩; obtain ⟨fe, hfe⟩ : ∃ x, x = (lenV a).half := ⟨_, rfl⟩; obtain ⟨te, hte⟩ : ∃ x, x = (lenV a).text := ⟨_, rfl⟩; rw [← hke, ← hfe, ← hte] at hk ⊢; have HK := Lib.hid (KV.any hk); clear x0b x1b x2b x3b x4b x5b hlb; have bAc := BA.out.old HO3.out; have x0c : w3.cell? ⟨w.heap.size, 0, none⟩ = some (.int .i64 ka) := bAc.cell 0; have x1c : w3.cell? ⟨w.heap.size, 1, none⟩ = some (.int .i64 fa) := bAc.cell 1; have x2c : w3.cell? ⟨w.heap.size, 2, none⟩ = some (.string ta) := bAc.cell 2; have x3c : w3.cell? ⟨w.heap.size, 3, none⟩ = some (.slice A1 n1 m1) := bAc.cell 3; have x4c : w3.cell? ⟨w.heap.size, 4, none⟩ = some (.slice A2 n2 m2) := bAc.cell 4; have x5c : w3.cell? ⟨w.heap.size, 5, none⟩ = some (.slice A3 n3 m3) := bAc.cell 5; have hlc : w.heap.size < w3.heap.size := bAc.lt; clear bAc; clear hk hke hfe hte ho3)))
    all_goals first
      | (go_ret; first | exact ⟨rfl, HO.out.trans HO2.out⟩ | exact ⟨rfl, HO.out.trans HO1.out⟩)
      | skip
    have HW := Lib.hid ((HO.out.trans HO3.out).alloc (.cells #[.int .i64 ke, .int .i64 fe, .string te, .slice E1 q1 r1, .slice E2 q2 r2, .slice E3 q3 r3] 27)).drew
    have hB : Duo w.heap.size #[.int .i64 ka, .int .i64 fa, .string ta, .slice A1 n1 m1, .slice A2 n2 m2, .slice A3 n3 m3] w3.heap.size #[.int .i64 ke, .int .i64 fe, .string te, .slice E1 q1 r1, .slice E2 q2 r2, .slice E3 q3 r3] (w3.alloc (.cells #[.int .i64 ke, .int .i64 fe, .string te, .slice E1 q1 r1, .slice E2 q2 r2, .slice E3 q3 r3] 27)).drew := ⟨((BA.out.old HO3.out).alloc _).drew, (Blk.new w3 _ _).drew⟩
    have hg := (HG.out trivial a (by simp)).1
    have GA := Lib.hid hg
    have HB8 := Lib.hid hB
    clear x0c x1c x2c x3c x4c x5c hlc hg
    refine AnyL.region 6 (S := Til 4 (Duo w.heap.size #[.int .i64 ka, .int .i64 fa, .string ta, .slice A1 n1 m1, .slice A2 n2 m2, .slice A3 n3 m3] w3.heap.size #[.int .i64 ke, .int .i64 fe, .string te, .slice E1 q1 r1, .slice E2 q2 r2, .slice E3 q3 r3])) rfl (by kernel_rfl) (fun hC => ?_)
    have hS : Til 4 (Duo w.heap.size #[.int .i64 ka, .int .i64 fa, .string ta, .slice A1 n1 m1, .slice A2 n2 m2, .slice A3 n3 m3] w3.heap.size #[.int .i64 ke, .int .i64 fe, .string te, .slice E1 q1 r1, .slice E2 q2 r2, .slice E3 q3 r3]) (Array.replicate 6 false) (w3.alloc (.cells #[.int .i64 ke, .int .i64 fe, .string te, .slice E1 q1 r1, .slice E2 q2 r2, .slice E3 q3 r3] 27)).drew := Til.mk hB
    clear hB
    refine AnyL.take (i := 0) (v := .agg #[.int .i64 ka, .int .i64 fa, .string ta, .slice A1 n1 m1, .slice A2 n2 m2, .slice A3 n3 m3]) (some 19) (Duo w.heap.size #[.int .i64 ka, .int .i64 fa, .string ta, .slice A1 n1 m1, .slice A2 n2 m2, .slice A3 n3 m3] w3.heap.size #[.int .i64 ke, .int .i64 fe, .string te, .slice E1 q1 r1, .slice E2 q2 r2, .slice E3 q3 r3]) rfl (by kernel_rfl) (by kernel_rfl) (by kernel_rfl) (fun _ _ _ h => h) (fun l w' hC hl hS => hS (hC.un (j := 4) (i := 1) (by kernel_rfl) (hC.un (j := 1) (i := 0) (by kernel_rfl) hl))) (fun l w' => Til.set (by decide) l w') (fun _ ho => by cases ho; exact Or.inl ⟨by rfl, fun w' hB => by have h0 := hB.1.cell 0; have h1 := hB.1.cell 1; have h2 := hB.1.cell 2; have h3 := hB.1.cell 3; have h4 := hB.1.cell 4; have h5 := hB.1.cell 5; go_simp⟩) hC hS (fun hC hS => ?_)
    simp only [Act.put, List.setIfInBounds_toArray, List.set_cons_zero, List.set_cons_succ]
    refine AnyL.take (i := 2) (v := .agg #[.int .i64 ke, .int .i64 fe, .string te, .slice E1 q1 r1, .slice E2 q2 r2, .slice E3 q3 r3]) (some 21) (Duo w.heap.size #[.int .i64 ka, .int .i64 fa, .string ta, .slice A1 n1 m1, .slice A2 n2 m2, .slice A3 n3 m3] w3.heap.size #[.int .i64 ke, .int .i64 fe, .string te, .slice E1 q1 r1, .slice E2 q2 r2, .slice E3 q3 r3]) rfl (by kernel_rfl) (by kernel_rfl) (by kernel_rfl) (fun _ _ _ h => h) (fun l w' hC hl hS => hS (hC.un (j := 4) (i := 2) (by kernel_rfl) hl)) (fun l w' => Til.set (by decide) l w') (fun _ ho => by cases ho; exact Or.inl ⟨by rfl, fun w' hB => by have h0 := hB.2.cell 0; have h1 := hB.2.cell 1; have h2 := hB.2.cell 2; have h3 := hB.2.cell 3; have h4 := hB.2.cell 4; have h5 := hB.2.cell 5; go_simp⟩) hC hS (fun hC hS => ?_)
    simp only [Act.put, List.setIfInBounds_toArray, List.set_cons_zero, List.set_cons_succ]
    refine AnyL.take (i := 3) (v := .int .i64 0) (some 22) (fun _ => True) rfl (by kernel_rfl) (by kernel_rfl) (by kernel_rfl) (fun _ _ _ h => h) (fun _ _ _ _ _ => trivial) (fun l w' => Til.set (by decide) l w') (fun _ ho => by cases ho; exact Or.inl ⟨by rfl, fun w' _ => by go_simp⟩) hC hS (fun hC hS => ?_)
    simp only [Act.put, List.setIfInBounds_toArray, List.set_cons_zero, List.set_cons_succ]
    refine AnyL.nxt 1 (by kernel_rfl) hC (fun o ho K hK => ?_)
    cases ho
    go_simp
    refine (length_fine GA.out h1.out h2.out (HX.out trivial) _ ok _ _ _ _ _ _ (C.out.old HW.out)).mono ?_
    rintro e w5 ⟨g0, g1, g2, g3, g4, g5, rfl, hk5, ho5⟩
    have HK5 := Lib.hid hk5
    have HO5 := Lib.hid ho5
    clear hk5 ho5
    refine hK.out _ _ (Til.mk ⟨HB8.out.1.old HO5.out, HB8.out.2.old HO5.out⟩) (fun hC hS => ?_)
    clear hK K
    have hh := told_any (len_back GA.out h1.out h2.out (HX.out trivial)).2.2.2.2 _ _ _ _ _ _ _ _ _ _ _ _ _ _ _ HK5.out (HK.out.old (((Old.refl w3).alloc _).drew.trans HO5.out))
    have HH := Lib.hid hh
    clear hh
    refine AnyL.nxt 4 (by kernel_rfl) hC (fun o ho K hK => ?_)
    cases ho
    go_simp
    refine HH.out.mono ?_
    rintro e w6 ⟨rfl, ho6⟩
    have HO6 := Lib.hid ho6
    clear ho6
    refine hK.out _ _ (Til.late (by rfl)) (fun hC hS => ?_)
    clear hK K
    refine AnyL.take (i := 5) (v := .bool true) (some 2) (fun _ => True) rfl (by kernel_rfl) (by kernel_rfl) (by kernel_rfl) (fun _ _ _ h => h) (fun _ _ _ _ _ => trivial) (fun l w' => Til.set (by decide) l w') (fun _ ho => by cases ho; exact Or.inl ⟨by rfl, fun w' _ => by go_simp⟩) hC hS (fun hC hS => ?_)
    simp only [Act.put, List.setIfInBounds_toArray, List.set_cons_zero, List.set_cons_succ]
    refine AnyL.done (by kernel_rfl) ?_ _
    clear hC hS
    go_wp2
    go_ret
    exact ⟨rfl, HW.out.trans (HO5.out.trans HO6.out)⟩
end Go.Proofs.YtpoanncombcemaaGreatDoor
