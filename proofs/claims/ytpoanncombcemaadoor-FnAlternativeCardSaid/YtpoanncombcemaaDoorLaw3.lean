/-
  Of two values the alternative is the first one, unless that is null or false: then the second one.
  Conditions: none.
-/
import Derived.Test.YtpoanncombcemaaDoorLaid
import Derived.Test.YtpoanncombcemaaDoorTold
import Derived.Test.YtpoanncombcemaaDoorFitTwo
import Derived.Test.YtpoanncombcemaaDoorAlt2
import Derived.Test.YtpoanncombcemaaDoorFrom7
import Derived.Deep.DeepMust
import Derived.Deep.DrawnRows
namespace Go.Proofs.YtpoanncombcemaaDoor
open Go.RowKit
attribute [local go_sem ↓] Go.wp_at_zero Go.wp_at_succ

/-- Three blocks lie as they lay. -/
def Tri (g : Nat) (a : Array Value) (g' : Nat) (b : Array Value) (g'' : Nat) (c : Array Value) (w : World) : Prop := Blk w g a 26 ∧ Blk w g' b 26 ∧ Blk w g'' c 26

set_option maxHeartbeats 4000000 in
set_option maxRecDepth 100000 in
theorem law3_any {a b : V} (ha : Sized a) (hb : Sized b) (w : World) (ok : Nat → Prop) (c0 c1 c2 c3 c4 c5 d0 d1 d2 d3 d4 d5 : Value) (hc : KV w ok a [c0, c1, c2, c3, c4, c5]) (hd : KV w ok b [d0, d1, d2, d3, d4, d5]) (hT : Tabs w) :
    Calls Tryd.prog 3 #[.agg #[c0, c1, c2, c3, c4, c5], .agg #[d0, d1, d2, d3, d4, d5]] w (Yes w) := by
  obtain ⟨A1, n1, m1, A2, n2, m2, A3, n3, m3, rfl, rfl, rfl, rfl, rfl, rfl⟩ := shape hc
  obtain ⟨B1, l1, p1, B2, l2, p2, B3, l3, p3, rfl, rfl, rfl, rfl, rfl, rfl⟩ := shape hd
  obtain ⟨ka, hka⟩ : ∃ x, x = a.kind := ⟨_, rfl⟩
  obtain ⟨fa, hfa⟩ : ∃ x, x = a.half := ⟨_, rfl⟩
  obtain ⟨ta, hta⟩ : ∃ x, x = a.text := ⟨_, rfl⟩
  obtain ⟨kb, hkb⟩ : ∃ x, x = b.kind := ⟨_, rfl⟩
  obtain ⟨fb, hfb⟩ : ∃ x, x = b.half := ⟨_, rfl⟩
  obtain ⟨tb, htb⟩ : ∃ x, x = b.text := ⟨_, rfl⟩
  rw [← hka, ← hfa, ← hta] at hc ⊢
  rw [← hkb, ← hfb, ← htb] at hd ⊢
  have C := Lib.hid hc
  have D := Lib.hid hd
  have HT := Lib.hid hT
  have HA := Lib.hid ha
  have HB := Lib.hid hb
  have KA := Lib.hid hka
  have HO := Lib.hid (((Old.refl w).alloc (.cells #[.int .i64 ka, .int .i64 fa, .string ta, .slice A1 n1 m1, .slice A2 n2 m2, .slice A3 n3 m3] 26)).alloc (.cells #[.int .i64 kb, .int .i64 fb, .string tb, .slice B1 l1 p1, .slice B2 l2 p2, .slice B3 l3 p3] 26))
  have BA := Lib.hid ((Blk.new w #[.int .i64 ka, .int .i64 fa, .string ta, .slice A1 n1 m1, .slice A2 n2 m2, .slice A3 n3 m3] 26).alloc (.cells #[.int .i64 kb, .int .i64 fb, .string tb, .slice B1 l1 p1, .slice B2 l2 p2, .slice B3 l3 p3] 26))
  have BB := Lib.hid (show Blk ((w.alloc (.cells #[.int .i64 ka, .int .i64 fa, .string ta, .slice A1 n1 m1, .slice A2 n2 m2, .slice A3 n3 m3] 26)).alloc (.cells #[.int .i64 kb, .int .i64 fb, .string tb, .slice B1 l1 p1, .slice B2 l2 p2, .slice B3 l3 p3] 26)) (w.heap.size + 1) #[.int .i64 kb, .int .i64 fb, .string tb, .slice B1 l1 p1, .slice B2 l2 p2, .slice B3 l3 p3] 26 by
    have hb := Blk.new (w.alloc (.cells #[.int .i64 ka, .int .i64 fa, .string ta, .slice A1 n1 m1, .slice A2 n2 m2, .slice A3 n3 m3] 26)) #[.int .i64 kb, .int .i64 fb, .string tb, .slice B1 l1 p1, .slice B2 l2 p2, .slice B3 l3 p3] 26
    rw [show (w.alloc (.cells #[.int .i64 ka, .int .i64 fa, .string ta, .slice A1 n1 m1, .slice A2 n2 m2, .slice A3 n3 m3] 26)).heap.size = w.heap.size + 1 by simp] at hb
    exact hb)
  obtain ⟨tr, htr⟩ : ∃ x, x = decide (ka ≠ 0 ∧ ka ≠ 1) := ⟨_, rfl⟩
  have HTR := Lib.hid (fun W : World => truthy_any W ka fa ta (.slice A1 n1 m1) (.slice A2 n2 m2) (.slice A3 n3 m3))
  have TR := Lib.hid htr
  rw [← htr] at HTR
  clear hc hd hT ha hb hka hfa hta hkb hfb htb htr
  go_enter Tryd.func3, Tryd.ntmps3
  go_upto_region 8 with (first
    | (go_at_call 8; have hq := HO1; clear hq; go_must (refine (fits1_any b HB.out _ ok _ _ _ _ _ _ (D.out.old (HO.out.trans HO1.out))).mono ?_; rintro e w2 ⟨b2, rfl, ho2, _⟩; have HO2 := Lib.hid (HO1.out.trans ho2); clear x0 y0 x1 y1 x2 y2 x3 y3 x4 y4 x5 y5 hl hm; have bAa := BA.out.old HO2.out; have bBa := BB.out.old HO2.out; have x0a : w2.cell? ⟨w.heap.size, 0, none⟩ = some (.int .i64 ka) := bAa.cell 0; have x1a : w2.cell? ⟨w.heap.size, 1, none⟩ = some (.int .i64 fa) := bAa.cell 1; have x2a : w2.cell? ⟨w.heap.size, 2, none⟩ = some (.string ta) := bAa.cell 2; have x3a : w2.cell? ⟨w.heap.size, 3, none⟩ = some (.slice A1 n1 m1) := bAa.cell 3; have x4a : w2.cell? ⟨w.heap.size, 4, none⟩ = some (.slice A2 n2 m2) := bAa.cell 4; have x5a : w2.cell? ⟨w.heap.size, 5, none⟩ = some (.slice A3 n3 m3) := bAa.cell 5; have y0a : w2.cell? ⟨w.heap.size + 1, 0, none⟩ = some (.int .i64 kb) := bBa.cell 0; have y1a : w2.cell? ⟨w.heap.size + 1, 1, none⟩ = some (.int .i64 fb) := bBa.cell 1; have y2a : w2.cell? ⟨w.heap.size + 1, 2, none⟩ = some (.string tb) := bBa.cell 2; have y3a : w2.cell? ⟨w.heap.size + 1, 3, none⟩ = some (.slice B1 l1 p1) := bBa.cell 3; have y4a : w2.cell? ⟨w.heap.size + 1, 4, none⟩ = some (.slice B2 l2 p2) := bBa.cell 4; have y5a : w2.cell? ⟨w.heap.size + 1, 5, none⟩ = some (.slice B3 l3 p3) := bBa.cell 5; have hla : w.heap.size + 1 < w2.heap.size := bBa.lt; have hma : w.heap.size < w2.heap.size := bAa.lt; clear bAa bBa; clear ho2; cases b2))
    | (go_at_call 8; go_must (refine (fits1_any a HA.out _ ok _ _ _ _ _ _ (C.out.old HO.out)).mono ?_; rintro e w1 ⟨b1, rfl, ho1, _⟩; have HO1 := Lib.hid ho1; have bA := BA.out.old HO1.out; have bB := BB.out.old HO1.out; have x0 : w1.cell? ⟨w.heap.size, 0, none⟩ = some (.int .i64 ka) := bA.cell 0; have x1 : w1.cell? ⟨w.heap.size, 1, none⟩ = some (.int .i64 fa) := bA.cell 1; have x2 : w1.cell? ⟨w.heap.size, 2, none⟩ = some (.string ta) := bA.cell 2; have x3 : w1.cell? ⟨w.heap.size, 3, none⟩ = some (.slice A1 n1 m1) := bA.cell 3; have x4 : w1.cell? ⟨w.heap.size, 4, none⟩ = some (.slice A2 n2 m2) := bA.cell 4; have x5 : w1.cell? ⟨w.heap.size, 5, none⟩ = some (.slice A3 n3 m3) := bA.cell 5; have y0 : w1.cell? ⟨w.heap.size + 1, 0, none⟩ = some (.int .i64 kb) := bB.cell 0; have y1 : w1.cell? ⟨w.heap.size + 1, 1, none⟩ = some (.int .i64 fb) := bB.cell 1; have y2 : w1.cell? ⟨w.heap.size + 1, 2, none⟩ = some (.string tb) := bB.cell 2; have y3 : w1.cell? ⟨w.heap.size + 1, 3, none⟩ = some (.slice B1 l1 p1) := bB.cell 3; have y4 : w1.cell? ⟨w.heap.size + 1, 4, none⟩ = some (.slice B2 l2 p2) := bB.cell 4; have y5 : w1.cell? ⟨w.heap.size + 1, 5, none⟩ = some (.slice B3 l3 p3) := bB.cell 5; have hl : w.heap.size + 1 < w1.heap.size := bB.lt; have hm : w.heap.size < w1.heap.size := bA.lt; clear bA bB; clear ho1; cases b1))
    | (go_at_call 9; go_must (refine (fit_two HA.out HB.out _ ok _ _ _ _ _ _ _ _ _ _ _ _ (C.out.old (HO.out.trans HO2.out)) (D.out.old (HO.out.trans HO2.out)) (HT.out.old (HO.out.trans HO2.out))).mono ?_; rintro e w3 ⟨b3, rfl, ho3, hg3⟩; have HO3 := Lib.hid (HO2.out.trans ho3); have HG := Lib.hid hg3; clear x0a y0a x1a y1a x2a y2a x3a y3a x4a y4a x5a y5a hla hma; have bAb := BA.out.old HO3.out; have bBb := BB.out.old HO3.out; have x0b : w3.cell? ⟨w.heap.size, 0, none⟩ = some (.int .i64 ka) := bAb.cell 0; have x1b : w3.cell? ⟨w.heap.size, 1, none⟩ = some (.int .i64 fa) := bAb.cell 1; have x2b : w3.cell? ⟨w.heap.size, 2, none⟩ = some (.string ta) := bAb.cell 2; have x3b : w3.cell? ⟨w.heap.size, 3, none⟩ = some (.slice A1 n1 m1) := bAb.cell 3; have x4b : w3.cell? ⟨w.heap.size, 4, none⟩ = some (.slice A2 n2 m2) := bAb.cell 4; have x5b : w3.cell? ⟨w.heap.size, 5, none⟩ = some (.slice A3 n3 m3) := bAb.cell 5; have y0b : w3.cell? ⟨w.heap.size + 1, 0, none⟩ = some (.int .i64 kb) := bBb.cell 0; have y1b : w3.cell? ⟨w.heap.size + 1, 1, none⟩ = some (.int .i64 fb) := bBb.cell 1; have y2b : w3.cell? ⟨w.heap.size + 1, 2, none⟩ = some (.string tb) := bBb.cell 2; have y3b : w3.cell? ⟨w.heap.size + 1, 3, none⟩ = some (.slice B1 l1 p1) := bBb.cell 3; have y4b : w3.cell? ⟨w.heap.size + 1, 4, none⟩ = some (.slice B2 l2 p2) := bBb.cell 4; have y5b : w3.cell? ⟨w.heap.size + 1, 5, none⟩ = some (.slice B3 l3 p3) := bBb.cell 5; have hlb : w.heap.size + 1 < w3.heap.size := bBb.lt; have hmb : w.heap.size < w3.heap.size := bAb.lt; clear bAb bBb; clear ho3 hg3; cases b3))
    | (go_at_call 10; go_must (refine (HTR.out _).mono ?_; rintro e w4 ⟨rfl, ho4⟩; have HO4 := Lib.hid (HO3.out.trans (((Old.refl w3).alloc _).trans ho4)); have BX := Lib.hid ((Blk.new w3 #[.int .i64 ka, .int .i64 fa, .string ta, .slice A1 n1 m1, .slice A2 n2 m2, .slice A3 n3 m3] 26).old ho4); clear x0b y0b x1b y1b x2b y2b x3b y3b x4b y4b x5b y5b hlb hmb; have bAc := BA.out.old HO4.out; have bBc := BB.out.old HO4.out; have x0c : w4.cell? ⟨w.heap.size, 0, none⟩ = some (.int .i64 ka) := bAc.cell 0; have x1c : w4.cell? ⟨w.heap.size, 1, none⟩ = some (.int .i64 fa) := bAc.cell 1; have x2c : w4.cell? ⟨w.heap.size, 2, none⟩ = some (.string ta) := bAc.cell 2; have x3c : w4.cell? ⟨w.heap.size, 3, none⟩ = some (.slice A1 n1 m1) := bAc.cell 3; have x4c : w4.cell? ⟨w.heap.size, 4, none⟩ = some (.slice A2 n2 m2) := bAc.cell 4; have x5c : w4.cell? ⟨w.heap.size, 5, none⟩ = some (.slice A3 n3 m3) := bAc.cell 5; have y0c : w4.cell? ⟨w.heap.size + 1, 0, none⟩ = some (.int .i64 kb) := bBc.cell 0; have y1c : w4.cell? ⟨w.heap.size + 1, 1, none⟩ = some (.int .i64 fb) := bBc.cell 1; have y2c : w4.cell? ⟨w.heap.size + 1, 2, none⟩ = some (.string tb) := bBc.cell 2; have y3c : w4.cell? ⟨w.heap.size + 1, 3, none⟩ = some (.slice B1 l1 p1) := bBc.cell 3; have y4c : w4.cell? ⟨w.heap.size + 1, 4, none⟩ = some (.slice B2 l2 p2) := bBc.cell 4; have y5c : w4.cell? ⟨w.heap.size + 1, 5, none⟩ = some (.slice B3 l3 p3) := bBc.cell 5; have hlc : w.heap.size + 1 < w4.heap.size := bBc.lt; have hmc : w.heap.size < w4.heap.size := bAc.lt; clear bAc bBc; have bx := BX.out; have u0 : w4.cell? ⟨w3.heap.size, 0, none⟩ = some (.int .i64 ka) := bx.cell 0; have q0 : w4.frozen? ⟨w3.heap.size, 0, none⟩ = false := bx.frozen 0; have u1 : w4.cell? ⟨w3.heap.size, 1, none⟩ = some (.int .i64 fa) := bx.cell 1; have q1 : w4.frozen? ⟨w3.heap.size, 1, none⟩ = false := bx.frozen 1; have u2 : w4.cell? ⟨w3.heap.size, 2, none⟩ = some (.string ta) := bx.cell 2; have q2 : w4.frozen? ⟨w3.heap.size, 2, none⟩ = false := bx.frozen 2; have u3 : w4.cell? ⟨w3.heap.size, 3, none⟩ = some (.slice A1 n1 m1) := bx.cell 3; have q3 : w4.frozen? ⟨w3.heap.size, 3, none⟩ = false := bx.frozen 3; have u4 : w4.cell? ⟨w3.heap.size, 4, none⟩ = some (.slice A2 n2 m2) := bx.cell 4; have q4 : w4.frozen? ⟨w3.heap.size, 4, none⟩ = false := bx.frozen 4; have u5 : w4.cell? ⟨w3.heap.size, 5, none⟩ = some (.slice A3 n3 m3) := bx.cell 5; have q5 : w4.frozen? ⟨w3.heap.size, 5, none⟩ = false := bx.frozen 5; have hx : w3.heap.size < w4.heap.size := bx.lt; clear bx; clear ho4; cases tr)))
  all_goals first
    | (go_ret; first | exact ⟨rfl, HO.out.trans HO3.out⟩ | exact ⟨rfl, HO.out.trans HO2.out⟩ | exact ⟨rfl, HO.out.trans HO1.out⟩)
    | skip
  · have hch := six_stores w4 w3.heap.size (.int .i64 kb) (.int .i64 fb) (.string tb) (.slice B1 l1 p1) (.slice B2 l2 p2) (.slice B3 l3 p3)
    have hne : ∀ i, i ≤ w.heap.size + 1 → i ≠ w3.heap.size := fun i hi => by have := HO3.out.size; simp at this; omega
    have hbx : Blk ((((((w4.setCell ⟨w3.heap.size, 0, none⟩ (.int .i64 kb)).setCell ⟨w3.heap.size, 1, none⟩ (.int .i64 fb)).setCell ⟨w3.heap.size, 2, none⟩ (.string tb)).setCell ⟨w3.heap.size, 3, none⟩ (.slice B1 l1 p1)).setCell ⟨w3.heap.size, 4, none⟩ (.slice B2 l2 p2)).setCell ⟨w3.heap.size, 5, none⟩ (.slice B3 l3 p3)) w3.heap.size #[.int .i64 kb, .int .i64 fb, .string tb, .slice B1 l1 p1, .slice B2 l2 p2, .slice B3 l3 p3] 26 := by
      have := ((((((BX.out.set 0 (.int .i64 kb)).set 1 (.int .i64 fb)).set 2 (.string tb)).set 3 (.slice B1 l1 p1)).set 4 (.slice B2 l2 p2)).set 5 (.slice B3 l3 p3))
      simpa using this
    have HW := Lib.hid (Old.chg_ (HO.out.trans HO4.out) hch (fun i hi => hne i (by omega))).drew
    have hB : Tri w.heap.size #[.int .i64 ka, .int .i64 fa, .string ta, .slice A1 n1 m1, .slice A2 n2 m2, .slice A3 n3 m3] (w.heap.size + 1) #[.int .i64 kb, .int .i64 fb, .string tb, .slice B1 l1 p1, .slice B2 l2 p2, .slice B3 l3 p3] w3.heap.size #[.int .i64 kb, .int .i64 fb, .string tb, .slice B1 l1 p1, .slice B2 l2 p2, .slice B3 l3 p3] ((((((w4.setCell ⟨w3.heap.size, 0, none⟩ (.int .i64 kb)).setCell ⟨w3.heap.size, 1, none⟩ (.int .i64 fb)).setCell ⟨w3.heap.size, 2, none⟩ (.string tb)).setCell ⟨w3.heap.size, 3, none⟩ (.slice B1 l1 p1)).setCell ⟨w3.heap.size, 4, none⟩ (.slice B2 l2 p2)).setCell ⟨w3.heap.size, 5, none⟩ (.slice B3 l3 p3)).drew := ⟨((BA.out.old HO4.out).chg hch (hne _ (by omega))).drew, ((BB.out.old HO4.out).chg hch (hne _ (by omega))).drew, hbx.drew⟩
    obtain ⟨⟨ga, _⟩, gb, _⟩ := HG.out trivial
    have hv : (if a.kind ≠ 0 ∧ a.kind ≠ 1 then a else b) = b := by rw [← KA.out]; exact if_neg (by simpa using TR.out.symm)
    have HV := Lib.hid hv
    have HB8 := Lib.hid hB
    have GA := Lib.hid ga
    have GB := Lib.hid gb
    clear ga gb hv hch hne hbx
    refine AnyL.region 6 (S := Til 4 (Tri w.heap.size #[.int .i64 ka, .int .i64 fa, .string ta, .slice A1 n1 m1, .slice A2 n2 m2, .slice A3 n3 m3] (w.heap.size + 1) #[.int .i64 kb, .int .i64 fb, .string tb, .slice B1 l1 p1, .slice B2 l2 p2, .slice B3 l3 p3] w3.heap.size #[.int .i64 kb, .int .i64 fb, .string tb, .slice B1 l1 p1, .slice B2 l2 p2, .slice B3 l3 p3])) rfl (by kernel_rfl) (fun hC => ?_)
    have hS : Til 4 (Tri w.heap.size #[.int .i64 ka, .int .i64 fa, .string ta, .slice A1 n1 m1, .slice A2 n2 m2, .slice A3 n3 m3] (w.heap.size + 1) #[.int .i64 kb, .int .i64 fb, .string tb, .slice B1 l1 p1, .slice B2 l2 p2, .slice B3 l3 p3] w3.heap.size #[.int .i64 kb, .int .i64 fb, .string tb, .slice B1 l1 p1, .slice B2 l2 p2, .slice B3 l3 p3]) (Array.replicate 6 false) ((((((w4.setCell ⟨w3.heap.size, 0, none⟩ (.int .i64 kb)).setCell ⟨w3.heap.size, 1, none⟩ (.int .i64 fb)).setCell ⟨w3.heap.size, 2, none⟩ (.string tb)).setCell ⟨w3.heap.size, 3, none⟩ (.slice B1 l1 p1)).setCell ⟨w3.heap.size, 4, none⟩ (.slice B2 l2 p2)).setCell ⟨w3.heap.size, 5, none⟩ (.slice B3 l3 p3)).drew := Til.mk hB
    clear hB
    refine AnyL.take (i := 0) (v := .agg #[.int .i64 ka, .int .i64 fa, .string ta, .slice A1 n1 m1, .slice A2 n2 m2, .slice A3 n3 m3]) (some 23) (Tri w.heap.size #[.int .i64 ka, .int .i64 fa, .string ta, .slice A1 n1 m1, .slice A2 n2 m2, .slice A3 n3 m3] (w.heap.size + 1) #[.int .i64 kb, .int .i64 fb, .string tb, .slice B1 l1 p1, .slice B2 l2 p2, .slice B3 l3 p3] w3.heap.size #[.int .i64 kb, .int .i64 fb, .string tb, .slice B1 l1 p1, .slice B2 l2 p2, .slice B3 l3 p3]) rfl (by kernel_rfl) (by kernel_rfl) (by kernel_rfl) (fun _ _ _ h => h) (fun l w' hC hl hS => hS (hC.un (j := 4) (i := 2) (by kernel_rfl) (hC.un (j := 2) (i := 0) (by kernel_rfl) hl))) (fun l w' => Til.set (by decide) l w') (fun _ ho => by cases ho; exact Or.inl ⟨by rfl, fun w' hB => by have h0 := hB.1.cell 0; have h1 := hB.1.cell 1; have h2 := hB.1.cell 2; have h3 := hB.1.cell 3; have h4 := hB.1.cell 4; have h5 := hB.1.cell 5; go_simp⟩) hC hS (fun hC hS => ?_)
    simp only [Act.put, List.setIfInBounds_toArray, List.set_cons_zero, List.set_cons_succ]
    refine AnyL.take (i := 1) (v := .agg #[.int .i64 kb, .int .i64 fb, .string tb, .slice B1 l1 p1, .slice B2 l2 p2, .slice B3 l3 p3]) (some 24) (Tri w.heap.size #[.int .i64 ka, .int .i64 fa, .string ta, .slice A1 n1 m1, .slice A2 n2 m2, .slice A3 n3 m3] (w.heap.size + 1) #[.int .i64 kb, .int .i64 fb, .string tb, .slice B1 l1 p1, .slice B2 l2 p2, .slice B3 l3 p3] w3.heap.size #[.int .i64 kb, .int .i64 fb, .string tb, .slice B1 l1 p1, .slice B2 l2 p2, .slice B3 l3 p3]) rfl (by kernel_rfl) (by kernel_rfl) (by kernel_rfl) (fun _ _ _ h => h) (fun l w' hC hl hS => hS (hC.un (j := 4) (i := 2) (by kernel_rfl) (hC.un (j := 2) (i := 1) (by kernel_rfl) hl))) (fun l w' => Til.set (by decide) l w') (fun _ ho => by cases ho; exact Or.inl ⟨by rfl, fun w' hB => by have h0 := hB.2.1.cell 0; have h1 := hB.2.1.cell 1; have h2 := hB.2.1.cell 2; have h3 := hB.2.1.cell 3; have h4 := hB.2.1.cell 4; have h5 := hB.2.1.cell 5; go_simp⟩) hC hS (fun hC hS => ?_)
    simp only [Act.put, List.setIfInBounds_toArray, List.set_cons_zero, List.set_cons_succ]
    refine AnyL.take (i := 3) (v := .agg #[.int .i64 kb, .int .i64 fb, .string tb, .slice B1 l1 p1, .slice B2 l2 p2, .slice B3 l3 p3]) (some 26) (Tri w.heap.size #[.int .i64 ka, .int .i64 fa, .string ta, .slice A1 n1 m1, .slice A2 n2 m2, .slice A3 n3 m3] (w.heap.size + 1) #[.int .i64 kb, .int .i64 fb, .string tb, .slice B1 l1 p1, .slice B2 l2 p2, .slice B3 l3 p3] w3.heap.size #[.int .i64 kb, .int .i64 fb, .string tb, .slice B1 l1 p1, .slice B2 l2 p2, .slice B3 l3 p3]) rfl (by kernel_rfl) (by kernel_rfl) (by kernel_rfl) (fun _ _ _ h => h) (fun l w' hC hl hS => hS (hC.un (j := 4) (i := 3) (by kernel_rfl) hl)) (fun l w' => Til.set (by decide) l w') (fun _ ho => by cases ho; exact Or.inl ⟨by rfl, fun w' hB => by have h0 := hB.2.2.cell 0; have h1 := hB.2.2.cell 1; have h2 := hB.2.2.cell 2; have h3 := hB.2.2.cell 3; have h4 := hB.2.2.cell 4; have h5 := hB.2.2.cell 5; go_simp⟩) hC hS (fun hC hS => ?_)
    simp only [Act.put, List.setIfInBounds_toArray, List.set_cons_zero, List.set_cons_succ]
    refine AnyL.one (i := 2) { dst := some 25, op := .call { callee := .value (.func 12), args := #[.tmp 23, .tmp 24], argTypes := #[26, 26] }, type := 31, pos := "laws_wt02c.go:456", after := #[{ on := 0, ground := .data }, { on := 1, ground := .data }], guard := none } (by kernel_rfl) rfl hC (fun K hK => ?_)
    go_wp2_with (go_at_call 12; go_must (refine (alternative_any mapFromGo_any GA.out GB.out _ ok _ _ _ _ _ _ _ _ _ _ _ _ (C.out.old HW.out) (D.out.old HW.out)).mono ?_; rintro e w5 ⟨g0, g1, g2, g3, g4, g5, rfl, hk5, ho5⟩; rw [HV.out] at hk5; have HK5 := Lib.hid hk5; have HO5 := Lib.hid ho5; clear hk5 ho5))
    refine hK.out _ _ (Til.mk ⟨HB8.out.1.old HO5.out, HB8.out.2.1.old HO5.out, HB8.out.2.2.old HO5.out⟩) (fun hC hS => ?_)
    clear hK K
    refine AnyL.one (i := 4) { dst := some 27, op := .call { callee := .value (.func 11), args := #[.tmp 25, .tmp 26], argTypes := #[31, 26] }, type := 4, pos := "laws_wt02c.go:456", after := #[{ on := 2, ground := .data }, { on := 3, ground := .data }, { on := 2, ground := .chain }], guard := none } (by kernel_rfl) rfl hC (fun K hK => ?_)
    have hh := given_any GB.out _ _ _ _ _ _ _ _ _ _ _ _ _ _ _ HK5.out (D.out.old (HW.out.trans HO5.out))
    have HH := Lib.hid hh
    clear hh
    go_simp
    refine HH.out.mono ?_
    rintro e w6 ⟨rfl, ho6⟩
    have HO6 := Lib.hid ho6
    clear ho6
    refine hK.out _ _ (Til.late (by rfl)) (fun hC hS => ?_)
    clear hK K
    refine AnyL.take (i := 5) (v := .bool true) (some 4) (fun _ => True) rfl (by kernel_rfl) (by kernel_rfl) (by kernel_rfl) (fun _ _ _ h => h) (fun _ _ _ _ _ => trivial) (fun l w' => Til.set (by decide) l w') (fun _ ho => by cases ho; exact Or.inl ⟨by rfl, fun w' _ => by go_simp⟩) hC hS (fun hC hS => ?_)
    simp only [Act.put, List.setIfInBounds_toArray, List.set_cons_zero, List.set_cons_succ]
    refine AnyL.done (by kernel_rfl) ?_ _
    clear hC hS
    go_wp2
    go_ret
    exact ⟨rfl, HW.out.trans (HO5.out.trans HO6.out)⟩
  · have HW := Lib.hid (HO.out.trans HO4.out).drew
    have hB : Tri w.heap.size #[.int .i64 ka, .int .i64 fa, .string ta, .slice A1 n1 m1, .slice A2 n2 m2, .slice A3 n3 m3] (w.heap.size + 1) #[.int .i64 kb, .int .i64 fb, .string tb, .slice B1 l1 p1, .slice B2 l2 p2, .slice B3 l3 p3] w3.heap.size #[.int .i64 ka, .int .i64 fa, .string ta, .slice A1 n1 m1, .slice A2 n2 m2, .slice A3 n3 m3] w4.drew := ⟨(BA.out.old HO4.out).drew, (BB.out.old HO4.out).drew, BX.out.drew⟩
    obtain ⟨⟨ga, _⟩, gb, _⟩ := HG.out trivial
    have hv : (if a.kind ≠ 0 ∧ a.kind ≠ 1 then a else b) = a := by rw [← KA.out]; exact if_pos (by simpa using TR.out.symm)
    have HV := Lib.hid hv
    have HB8 := Lib.hid hB
    have GA := Lib.hid ga
    have GB := Lib.hid gb
    clear ga gb hv 
    refine AnyL.region 6 (S := Til 4 (Tri w.heap.size #[.int .i64 ka, .int .i64 fa, .string ta, .slice A1 n1 m1, .slice A2 n2 m2, .slice A3 n3 m3] (w.heap.size + 1) #[.int .i64 kb, .int .i64 fb, .string tb, .slice B1 l1 p1, .slice B2 l2 p2, .slice B3 l3 p3] w3.heap.size #[.int .i64 ka, .int .i64 fa, .string ta, .slice A1 n1 m1, .slice A2 n2 m2, .slice A3 n3 m3])) rfl (by kernel_rfl) (fun hC => ?_)
    have hS : Til 4 (Tri w.heap.size #[.int .i64 ka, .int .i64 fa, .string ta, .slice A1 n1 m1, .slice A2 n2 m2, .slice A3 n3 m3] (w.heap.size + 1) #[.int .i64 kb, .int .i64 fb, .string tb, .slice B1 l1 p1, .slice B2 l2 p2, .slice B3 l3 p3] w3.heap.size #[.int .i64 ka, .int .i64 fa, .string ta, .slice A1 n1 m1, .slice A2 n2 m2, .slice A3 n3 m3]) (Array.replicate 6 false) w4.drew := Til.mk hB
    clear hB
    refine AnyL.take (i := 0) (v := .agg #[.int .i64 ka, .int .i64 fa, .string ta, .slice A1 n1 m1, .slice A2 n2 m2, .slice A3 n3 m3]) (some 23) (Tri w.heap.size #[.int .i64 ka, .int .i64 fa, .string ta, .slice A1 n1 m1, .slice A2 n2 m2, .slice A3 n3 m3] (w.heap.size + 1) #[.int .i64 kb, .int .i64 fb, .string tb, .slice B1 l1 p1, .slice B2 l2 p2, .slice B3 l3 p3] w3.heap.size #[.int .i64 ka, .int .i64 fa, .string ta, .slice A1 n1 m1, .slice A2 n2 m2, .slice A3 n3 m3]) rfl (by kernel_rfl) (by kernel_rfl) (by kernel_rfl) (fun _ _ _ h => h) (fun l w' hC hl hS => hS (hC.un (j := 4) (i := 2) (by kernel_rfl) (hC.un (j := 2) (i := 0) (by kernel_rfl) hl))) (fun l w' => Til.set (by decide) l w') (fun _ ho => by cases ho; exact Or.inl ⟨by rfl, fun w' hB => by have h0 := hB.1.cell 0; have h1 := hB.1.cell 1; have h2 := hB.1.cell 2; have h3 := hB.1.cell 3; have h4 := hB.1.cell 4; have h5 := hB.1.cell 5; go_simp⟩) hC hS (fun hC hS => ?_)
    simp only [Act.put, List.setIfInBounds_toArray, List.set_cons_zero, List.set_cons_succ]
    refine AnyL.take (i := 1) (v := .agg #[.int .i64 kb, .int .i64 fb, .string tb, .slice B1 l1 p1, .slice B2 l2 p2, .slice B3 l3 p3]) (some 24) (Tri w.heap.size #[.int .i64 ka, .int .i64 fa, .string ta, .slice A1 n1 m1, .slice A2 n2 m2, .slice A3 n3 m3] (w.heap.size + 1) #[.int .i64 kb, .int .i64 fb, .string tb, .slice B1 l1 p1, .slice B2 l2 p2, .slice B3 l3 p3] w3.heap.size #[.int .i64 ka, .int .i64 fa, .string ta, .slice A1 n1 m1, .slice A2 n2 m2, .slice A3 n3 m3]) rfl (by kernel_rfl) (by kernel_rfl) (by kernel_rfl) (fun _ _ _ h => h) (fun l w' hC hl hS => hS (hC.un (j := 4) (i := 2) (by kernel_rfl) (hC.un (j := 2) (i := 1) (by kernel_rfl) hl))) (fun l w' => Til.set (by decide) l w') (fun _ ho => by cases ho; exact Or.inl ⟨by rfl, fun w' hB => by have h0 := hB.2.1.cell 0; have h1 := hB.2.1.cell 1; have h2 := hB.2.1.cell 2; have h3 := hB.2.1.cell 3; have h4 := hB.2.1.cell 4; have h5 := hB.2.1.cell 5; go_simp⟩) hC hS (fun hC hS => ?_)
    simp only [Act.put, List.setIfInBounds_toArray, List.set_cons_zero, List.set_cons_succ]
    refine AnyL.take (i := 3) (v := .agg #[.int .i64 ka, .int .i64 fa, .string ta, .slice A1 n1 m1, .slice A2 n2 m2, .slice A3 n3 m3]) (some 26) (Tri w.heap.size #[.int .i64 ka, .int .i64 fa, .string ta, .slice A1 n1 m1, .slice A2 n2 m2, .slice A3 n3 m3] (w.heap.size + 1) #[.int .i64 kb, .int .i64 fb, .string tb, .slice B1 l1 p1, .slice B2 l2 p2, .slice B3 l3 p3] w3.heap.size #[.int .i64 ka, .int .i64 fa, .string ta, .slice A1 n1 m1, .slice A2 n2 m2, .slice A3 n3 m3]) rfl (by kernel_rfl) (by kernel_rfl) (by kernel_rfl) (fun _ _ _ h => h) (fun l w' hC hl hS => hS (hC.un (j := 4) (i := 3) (by kernel_rfl) hl)) (fun l w' => Til.set (by decide) l w') (fun _ ho => by cases ho; exact Or.inl ⟨by rfl, fun w' hB => by have h0 := hB.2.2.cell 0; have h1 := hB.2.2.cell 1; have h2 := hB.2.2.cell 2; have h3 := hB.2.2.cell 3; have h4 := hB.2.2.cell 4; have h5 := hB.2.2.cell 5; go_simp⟩) hC hS (fun hC hS => ?_)
    simp only [Act.put, List.setIfInBounds_toArray, List.set_cons_zero, List.set_cons_succ]
    refine AnyL.one (i := 2) { dst := some 25, op := .call { callee := .value (.func 12), args := #[.tmp 23, .tmp 24], argTypes := #[26, 26] }, type := 31, pos := "laws_wt02c.go:456", after := #[{ on := 0, ground := .data }, { on := 1, ground := .data }], guard := none } (by kernel_rfl) rfl hC (fun K hK => ?_)
    go_wp2_with (go_at_call 12; go_must (refine (alternative_any mapFromGo_any GA.out GB.out _ ok _ _ _ _ _ _ _ _ _ _ _ _ (C.out.old HW.out) (D.out.old HW.out)).mono ?_; rintro e w5 ⟨g0, g1, g2, g3, g4, g5, rfl, hk5, ho5⟩; rw [HV.out] at hk5; have HK5 := Lib.hid hk5; have HO5 := Lib.hid ho5; clear hk5 ho5))
    refine hK.out _ _ (Til.mk ⟨HB8.out.1.old HO5.out, HB8.out.2.1.old HO5.out, HB8.out.2.2.old HO5.out⟩) (fun hC hS => ?_)
    clear hK K
    refine AnyL.one (i := 4) { dst := some 27, op := .call { callee := .value (.func 11), args := #[.tmp 25, .tmp 26], argTypes := #[31, 26] }, type := 4, pos := "laws_wt02c.go:456", after := #[{ on := 2, ground := .data }, { on := 3, ground := .data }, { on := 2, ground := .chain }], guard := none } (by kernel_rfl) rfl hC (fun K hK => ?_)
    have hh := given_any GA.out _ _ _ _ _ _ _ _ _ _ _ _ _ _ _ HK5.out (C.out.old (HW.out.trans HO5.out))
    have HH := Lib.hid hh
    clear hh
    go_simp
    refine HH.out.mono ?_
    rintro e w6 ⟨rfl, ho6⟩
    have HO6 := Lib.hid ho6
    clear ho6
    refine hK.out _ _ (Til.late (by rfl)) (fun hC hS => ?_)
    clear hK K
    refine AnyL.take (i := 5) (v := .bool true) (some 4) (fun _ => True) rfl (by kernel_rfl) (by kernel_rfl) (by kernel_rfl) (fun _ _ _ h => h) (fun _ _ _ _ _ => trivial) (fun l w' => Til.set (by decide) l w') (fun _ ho => by cases ho; exact Or.inl ⟨by rfl, fun w' _ => by go_simp⟩) hC hS (fun hC hS => ?_)
    simp only [Act.put, List.setIfInBounds_toArray, List.set_cons_zero, List.set_cons_succ]
    refine AnyL.done (by kernel_rfl) ?_ _
    clear hC hS
    go_wp2
    go_ret
    exact ⟨rfl, HW.out.trans (HO5.out.trans HO6.out)⟩
end Go.Proofs.YtpoanncombcemaaDoor
