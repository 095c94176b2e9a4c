/-
  A map merged with itself, or with one without keys, from either side, is itself.
  Conditions: none.
-/
import Derived.Test.YtpoanncombcemaaDoorLaid
import Derived.Test.YtpoanncombcemaaDoorTold
import Derived.Test.YtpoanncombcemaaDoorMerge
import Derived.Deep.DeepMust
import Derived.Deep.DrawnRows
namespace Go.Proofs.YtpoanncombcemaaDoor
open Go.RowKit
attribute [local go_sem ↓] Go.wp_at_zero Go.wp_at_succ

/-- One alone may come up. -/
theorem AnyL.next {P : Program} {ops : Array Oper} {Q : Exit → Act → World → Prop} {md : Region.Mode} {S : Array Bool → World → Prop} {fuel : Nat} {l : Array Bool} {a : Act} {w : World} (i : Nat) (hr : Region.ready md ops l = [i]) (hC : Closed md ops l)
    (h : ∀ o, ops[i]? = some o → ∀ K' : Act → World → Prop, Shut (∀ a w, S (l.setIfInBounds i true) w → (Closed md ops (l.setIfInBounds i true) → S (l.setIfInBounds i true) w → AnyL P md ops Q S fuel (l.setIfInBounds i true) a w) → K' a w) → if Region.wanted o (yielded ops a.tmps) = true then Oper.wp P o a w K' Q else K' (a.put o.dst undef) w) :
    AnyL P md ops Q S (fuel + 1) l a w := by
  have hi : i ∈ Region.ready md ops l := by rw [hr]; simp
  obtain ⟨_, o, ho, _⟩ := mem_ready.1 hi
  exact AnyL.one o hr ho hC (h o ho)

/-- Two blocks lie as they lay. -/
def Duo (g : Nat) (a : Array Value) (g' : Nat) (b : Array Value) (_ : Array Bool) (w : World) : Prop := Blk w g a 26 ∧ Blk w g' b 26
theorem Duo.old {g g' : Nat} {a b : Array Value} {l l' : Array Bool} {w w' : World} (h : Duo g a g' b l w) (ho : Old w w') : Duo g a g' b l' w' := ⟨h.1.old ho, h.2.old ho⟩

set_option maxHeartbeats 4000000 in
set_option maxRecDepth 100000 in
theorem law5_any {a : V} (ha : Sized a) (w : World) (ok : Nat → Prop) (c0 c1 c2 c3 c4 c5 : Value) (hc : KV w ok a [c0, c1, c2, c3, c4, c5]) (hT : Tabs w) :
    Calls Tryd.prog 5 #[.agg #[c0, c1, c2, c3, c4, c5]] w (Yes w) := by
  obtain ⟨A1, n1, m1, A2, n2, m2, A3, n3, m3, rfl, rfl, rfl, rfl, rfl, rfl⟩ := shape hc
  obtain ⟨ka, hka⟩ : ∃ x, x = a.kind := ⟨_, rfl⟩
  obtain ⟨fa, hfa⟩ : ∃ x, x = a.half := ⟨_, rfl⟩
  obtain ⟨ta, hta⟩ : ∃ x, x = a.text := ⟨_, rfl⟩
  rw [← hka, ← hfa, ← hta] at hc ⊢
  have C := Lib.hid hc
  have HT := Lib.hid hT
  have HA := Lib.hid ha
  have KA := Lib.hid hka
  have HO := Lib.hid ((Old.refl w).alloc (.cells #[.int .i64 ka, .int .i64 fa, .string ta, .slice A1 n1 m1, .slice A2 n2 m2, .slice A3 n3 m3] 26))
  have BA := Lib.hid (Blk.new w #[.int .i64 ka, .int .i64 fa, .string ta, .slice A1 n1 m1, .slice A2 n2 m2, .slice A3 n3 m3] 26)
  clear hc hT ha hka hfa hta
  by_cases h6 : ka = 6
  · subst h6
    go_enter Tryd.func5, Tryd.ntmps5
    go_upto_region 6 with (first
      | (go_at_call 8; go_must (refine (fits1_any a HA.out _ ok _ _ _ _ _ _ (C.out.old HO.out)).mono ?_; rintro e w1 ⟨b1, rfl, ho1, _⟩; have HO1 := Lib.hid ho1; have bA := BA.out.old HO1.out; have x0 : w1.cell? ⟨w.heap.size, 0, none⟩ = some (.int .i64 6) := bA.cell 0; have x1 : w1.cell? ⟨w.heap.size, 1, none⟩ = some (.int .i64 fa) := bA.cell 1; have x2 : w1.cell? ⟨w.heap.size, 2, none⟩ = some (.string ta) := bA.cell 2; have x3 : w1.cell? ⟨w.heap.size, 3, none⟩ = some (.slice A1 n1 m1) := bA.cell 3; have x4 : w1.cell? ⟨w.heap.size, 4, none⟩ = some (.slice A2 n2 m2) := bA.cell 4; have x5 : w1.cell? ⟨w.heap.size, 5, none⟩ = some (.slice A3 n3 m3) := bA.cell 5; have hl : w.heap.size < w1.heap.size := bA.lt; clear bA; clear ho1; cases b1))
      | (go_at_call 18; go_must (refine (fit_any HA.out _ ok _ _ _ _ _ _ (C.out.old (HO.out.trans HO1.out)) (HT.out.old (HO.out.trans HO1.out))).mono ?_; rintro e w3 ⟨b3, rfl, ho3, hg3⟩; have HO3 := Lib.hid (HO1.out.trans ho3); have HG := Lib.hid hg3; clear x0 x1 x2 x3 x4 x5 hl; have bAb := BA.out.old HO3.out; have x0b : w3.cell? ⟨w.heap.size, 0, none⟩ = some (.int .i64 6) := bAb.cell 0; have x1b : w3.cell? ⟨w.heap.size, 1, none⟩ = some (.int .i64 fa) := bAb.cell 1; have x2b : w3.cell? ⟨w.heap.size, 2, none⟩ = some (.string ta) := bAb.cell 2; have x3b : w3.cell? ⟨w.heap.size, 3, none⟩ = some (.slice A1 n1 m1) := bAb.cell 3; have x4b : w3.cell? ⟨w.heap.size, 4, none⟩ = some (.slice A2 n2 m2) := bAb.cell 4; have x5b : w3.cell? ⟨w.heap.size, 5, none⟩ = some (.slice A3 n3 m3) := bAb.cell 5; have hlb : w.heap.size < w3.heap.size := bAb.lt; clear bAb; clear ho3 hg3; cases b3)))
    all_goals first
      | (go_ret; first | exact ⟨rfl, HO.out.trans HO3.out⟩ | exact ⟨rfl, HO.out.trans HO1.out⟩)
      | skip
    obtain ⟨ga, sa⟩ := HG.out trivial
    have GA := Lib.hid ga
    have SA := Lib.hid sa
    have K6 : a.kind = 6 := KA.out.symm
    have HK6 := Lib.hid K6
    clear ga sa K6
    have E := Lib.hid (show KV w ok V.emptyMap [.int .i64 6, .int .i64 0, .string nilS, .slice none 0 0, .slice none 0 0, .slice none 0 0] from
      .mk 6 0 nilS [] [] [] _ _ _ (fun _ => []) (fun _ => []) (SliceV.nil _ _ _ _) (fun i hi => absurd hi (by simp)) (SliceV.nil _ _ _ _) (SliceV.nil _ _ _ _) (fun i hi => absurd hi (by simp)))
    have HW := Lib.hid ((HO.out.trans HO3.out).alloc (.cells #[.int .i64 6, .int .i64 0, .string ⟨#[]⟩, .slice none 0 0, .slice none 0 0, .slice none 0 0] 26)).drew
    have hB : Duo w.heap.size #[.int .i64 6, .int .i64 fa, .string ta, .slice A1 n1 m1, .slice A2 n2 m2, .slice A3 n3 m3] w3.heap.size #[.int .i64 6, .int .i64 0, .string ⟨#[]⟩, .slice none 0 0, .slice none 0 0, .slice none 0 0] (Array.replicate 20 false) ((w3.alloc (.cells #[.int .i64 6, .int .i64 0, .string ⟨#[]⟩, .slice none 0 0, .slice none 0 0, .slice none 0 0] 26)).drew) := ⟨((BA.out.old HO3.out).alloc _).drew, (Blk.new w3 _ _).drew⟩
    have HB := Lib.hid hB
    refine AnyL.region 20 (S := Duo w.heap.size #[.int .i64 6, .int .i64 fa, .string ta, .slice A1 n1 m1, .slice A2 n2 m2, .slice A3 n3 m3] w3.heap.size #[.int .i64 6, .int .i64 0, .string ⟨#[]⟩, .slice none 0 0, .slice none 0 0, .slice none 0 0]) rfl (by kernel_rfl) (fun hC => ?_)
    have hS := hB
    clear hB x0b x1b x2b x3b x4b x5b hlb
    replace HB := Lib.hid (HB.out.old (l' := #[]) (Old.refl _))
    refine AnyL.take (i := 0) (v := .agg #[.int .i64 6, .int .i64 fa, .string ta, .slice A1 n1 m1, .slice A2 n2 m2, .slice A3 n3 m3]) (some 16) (Duo w.heap.size #[.int .i64 6, .int .i64 fa, .string ta, .slice A1 n1 m1, .slice A2 n2 m2, .slice A3 n3 m3] w3.heap.size #[.int .i64 6, .int .i64 0, .string ⟨#[]⟩, .slice none 0 0, .slice none 0 0, .slice none 0 0] #[]) rfl (by kernel_rfl) (by kernel_rfl) (by kernel_rfl) (fun _ _ _ h => h) (fun l w' hC hl hS => hS) (fun l w' => Iff.rfl) (fun _ ho => by cases ho; exact Or.inl ⟨by rfl, fun w' hB => by have h0 := hB.1.cell 0; have h1 := hB.1.cell 1; have h2 := hB.1.cell 2; have h3 := hB.1.cell 3; have h4 := hB.1.cell 4; have h5 := hB.1.cell 5; go_simp⟩) hC hS (fun hC hS => ?_)
    simp only [Act.put, List.setIfInBounds_toArray, List.set_cons_zero, List.set_cons_succ]
    refine AnyL.take (i := 1) (v := .agg #[.int .i64 6, .int .i64 fa, .string ta, .slice A1 n1 m1, .slice A2 n2 m2, .slice A3 n3 m3]) (some 17) (Duo w.heap.size #[.int .i64 6, .int .i64 fa, .string ta, .slice A1 n1 m1, .slice A2 n2 m2, .slice A3 n3 m3] w3.heap.size #[.int .i64 6, .int .i64 0, .string ⟨#[]⟩, .slice none 0 0, .slice none 0 0, .slice none 0 0] #[]) rfl (by kernel_rfl) (by kernel_rfl) (by kernel_rfl) (fun _ _ _ h => h) (fun l w' hC hl hS => hS) (fun l w' => Iff.rfl) (fun _ ho => by cases ho; exact Or.inl ⟨by rfl, fun w' hB => by have h0 := hB.1.cell 0; have h1 := hB.1.cell 1; have h2 := hB.1.cell 2; have h3 := hB.1.cell 3; have h4 := hB.1.cell 4; have h5 := hB.1.cell 5; go_simp⟩) hC hS (fun hC hS => ?_)
    simp only [Act.put, List.setIfInBounds_toArray, List.set_cons_zero, List.set_cons_succ]
    refine AnyL.take (i := 3) (v := .agg #[.int .i64 6, .int .i64 fa, .string ta, .slice A1 n1 m1, .slice A2 n2 m2, .slice A3 n3 m3]) (some 19) (Duo w.heap.size #[.int .i64 6, .int .i64 fa, .string ta, .slice A1 n1 m1, .slice A2 n2 m2, .slice A3 n3 m3] w3.heap.size #[.int .i64 6, .int .i64 0, .string ⟨#[]⟩, .slice none 0 0, .slice none 0 0, .slice none 0 0] #[]) rfl (by kernel_rfl) (by kernel_rfl) (by kernel_rfl) (fun _ _ _ h => h) (fun l w' hC hl hS => hS) (fun l w' => Iff.rfl) (fun _ ho => by cases ho; exact Or.inl ⟨by rfl, fun w' hB => by have h0 := hB.1.cell 0; have h1 := hB.1.cell 1; have h2 := hB.1.cell 2; have h3 := hB.1.cell 3; have h4 := hB.1.cell 4; have h5 := hB.1.cell 5; go_simp⟩) hC hS (fun hC hS => ?_)
    simp only [Act.put, List.setIfInBounds_toArray, List.set_cons_zero, List.set_cons_succ]
    have hh := merge_any GA.out SA.out HK6.out (.inl rfl) (.inl rfl) (.inl rfl) _ ok _ _ _ _ _ _ _ _ _ _ _ _ (C.out.old HW.out) (C.out.old HW.out)
    have HH := Lib.hid hh
    clear hh
    refine AnyL.next 2 (by kernel_rfl) hC (fun o ho K hK => ?_)
    cases ho
    go_simp
    refine HH.out.mono ?_
    rintro e w5 ⟨g0, g1, g2, g3, g4, g5, rfl, hk, ho⟩
    have HR := Lib.hid hk
    replace HB := Lib.hid (HB.out.old (l' := #[]) ho)
    replace HW := Lib.hid (HW.out.trans ho)
    clear hk ho HH
    refine hK.out _ _ (HB.out.old (Old.refl _)) (fun hC hS => ?_)
    clear hK K
    have hh := given_any GA.out _ _ _ _ _ _ _ _ _ _ _ _ _ _ _ HR.out (C.out.old HW.out)
    have HH := Lib.hid hh
    clear hh
    refine AnyL.next 4 (by kernel_rfl) hC (fun o ho K hK => ?_)
    cases ho
    go_simp
    refine HH.out.mono ?_
    rintro e w6 ⟨rfl, ho⟩
    replace HB := Lib.hid (HB.out.old (l' := #[]) ho)
    replace HW := Lib.hid (HW.out.trans ho)
    clear ho HH HR
    refine hK.out _ _ (HB.out.old (Old.refl _)) (fun hC hS => ?_)
    clear hK K
    refine AnyL.take (i := 5) (v := .bool true) (some 21) (fun _ => True) rfl (by kernel_rfl) (by kernel_rfl) (by kernel_rfl) (fun _ _ _ h => h) (fun _ _ _ _ _ => trivial) (fun l w' => Iff.rfl) (fun _ ho => by cases ho; exact Or.inl ⟨by rfl, fun w' _ => by go_simp⟩) hC hS (fun hC hS => ?_)
    simp only [Act.put, List.setIfInBounds_toArray, List.set_cons_zero, List.set_cons_succ]
    refine AnyL.take (i := 6) (v := .agg #[.int .i64 6, .int .i64 fa, .string ta, .slice A1 n1 m1, .slice A2 n2 m2, .slice A3 n3 m3]) (some 22) (Duo w.heap.size #[.int .i64 6, .int .i64 fa, .string ta, .slice A1 n1 m1, .slice A2 n2 m2, .slice A3 n3 m3] w3.heap.size #[.int .i64 6, .int .i64 0, .string ⟨#[]⟩, .slice none 0 0, .slice none 0 0, .slice none 0 0] #[]) rfl (by kernel_rfl) (by kernel_rfl) (by kernel_rfl) (fun _ _ _ h => h) (fun l w' hC hl hS => hS) (fun l w' => Iff.rfl) (fun _ ho => by cases ho; exact Or.inl ⟨by rfl, fun w' hB => by have h0 := hB.1.cell 0; have h1 := hB.1.cell 1; have h2 := hB.1.cell 2; have h3 := hB.1.cell 3; have h4 := hB.1.cell 4; have h5 := hB.1.cell 5; go_simp⟩) hC hS (fun hC hS => ?_)
    simp only [Act.put, List.setIfInBounds_toArray, List.set_cons_zero, List.set_cons_succ]
    refine AnyL.take (i := 7) (v := .agg #[.int .i64 6, .int .i64 0, .string ⟨#[]⟩, .slice none 0 0, .slice none 0 0, .slice none 0 0]) (some 23) (Duo w.heap.size #[.int .i64 6, .int .i64 fa, .string ta, .slice A1 n1 m1, .slice A2 n2 m2, .slice A3 n3 m3] w3.heap.size #[.int .i64 6, .int .i64 0, .string ⟨#[]⟩, .slice none 0 0, .slice none 0 0, .slice none 0 0] #[]) rfl (by kernel_rfl) (by kernel_rfl) (by kernel_rfl) (fun _ _ _ h => h) (fun l w' hC hl hS => hS) (fun l w' => Iff.rfl) (fun _ ho => by cases ho; exact Or.inl ⟨by rfl, fun w' hB => by have h0 := hB.2.cell 0; have h1 := hB.2.cell 1; have h2 := hB.2.cell 2; have h3 := hB.2.cell 3; have h4 := hB.2.cell 4; have h5 := hB.2.cell 5; go_simp⟩) hC hS (fun hC hS => ?_)
    simp only [Act.put, List.setIfInBounds_toArray, List.set_cons_zero, List.set_cons_succ]
    refine AnyL.take (i := 9) (v := .agg #[.int .i64 6, .int .i64 fa, .string ta, .slice A1 n1 m1, .slice A2 n2 m2, .slice A3 n3 m3]) (some 25) (Duo w.heap.size #[.int .i64 6, .int .i64 fa, .string ta, .slice A1 n1 m1, .slice A2 n2 m2, .slice A3 n3 m3] w3.heap.size #[.int .i64 6, .int .i64 0, .string ⟨#[]⟩, .slice none 0 0, .slice none 0 0, .slice none 0 0] #[]) rfl (by kernel_rfl) (by kernel_rfl) (by kernel_rfl) (fun _ _ _ h => h) (fun l w' hC hl hS => hS) (fun l w' => Iff.rfl) (fun _ ho => by cases ho; exact Or.inl ⟨by rfl, fun w' hB => by have h0 := hB.1.cell 0; have h1 := hB.1.cell 1; have h2 := hB.1.cell 2; have h3 := hB.1.cell 3; have h4 := hB.1.cell 4; have h5 := hB.1.cell 5; go_simp⟩) hC hS (fun hC hS => ?_)
    simp only [Act.put, List.setIfInBounds_toArray, List.set_cons_zero, List.set_cons_succ]
    have hh := merge_any GA.out SA.out HK6.out (.inl rfl) (.inr rfl) (.inl rfl) _ ok _ _ _ _ _ _ _ _ _ _ _ _ (C.out.old HW.out) (E.out.old HW.out)
    have HH := Lib.hid hh
    clear hh
    refine AnyL.next 8 (by kernel_rfl) hC (fun o ho K hK => ?_)
    cases ho
    go_simp
    refine HH.out.mono ?_
    rintro e w7 ⟨g0, g1, g2, g3, g4, g5, rfl, hk, ho⟩
    have HR := Lib.hid hk
    replace HB := Lib.hid (HB.out.old (l' := #[]) ho)
    replace HW := Lib.hid (HW.out.trans ho)
    clear hk ho HH
    refine hK.out _ _ (HB.out.old (Old.refl _)) (fun hC hS => ?_)
    clear hK K
    have hh := given_any GA.out _ _ _ _ _ _ _ _ _ _ _ _ _ _ _ HR.out (C.out.old HW.out)
    have HH := Lib.hid hh
    clear hh
    refine AnyL.next 10 (by kernel_rfl) hC (fun o ho K hK => ?_)
    cases ho
    go_simp
    refine HH.out.mono ?_
    rintro e w8 ⟨rfl, ho⟩
    replace HB := Lib.hid (HB.out.old (l' := #[]) ho)
    replace HW := Lib.hid (HW.out.trans ho)
    clear ho HH HR
    refine hK.out _ _ (HB.out.old (Old.refl _)) (fun hC hS => ?_)
    clear hK K
    refine AnyL.take (i := 11) (v := .bool true) (some 27) (fun _ => True) rfl (by kernel_rfl) (by kernel_rfl) (by kernel_rfl) (fun _ _ _ h => h) (fun _ _ _ _ _ => trivial) (fun l w' => Iff.rfl) (fun _ ho => by cases ho; exact Or.inl ⟨by rfl, fun w' _ => by go_simp⟩) hC hS (fun hC hS => ?_)
    simp only [Act.put, List.setIfInBounds_toArray, List.set_cons_zero, List.set_cons_succ]
    refine AnyL.take (i := 12) (v := .bool true) (some 28) (fun _ => True) rfl (by kernel_rfl) (by kernel_rfl) (by kernel_rfl) (fun _ _ _ h => h) (fun _ _ _ _ _ => trivial) (fun l w' => Iff.rfl) (fun _ ho => by cases ho; exact Or.inl ⟨by rfl, fun w' _ => by go_simp⟩) hC hS (fun hC hS => ?_)
    simp only [Act.put, List.setIfInBounds_toArray, List.set_cons_zero, List.set_cons_succ]
    refine AnyL.take (i := 13) (v := .agg #[.int .i64 6, .int .i64 0, .string ⟨#[]⟩, .slice none 0 0, .slice none 0 0, .slice none 0 0]) (some 29) (Duo w.heap.size #[.int .i64 6, .int .i64 fa, .string ta, .slice A1 n1 m1, .slice A2 n2 m2, .slice A3 n3 m3] w3.heap.size #[.int .i64 6, .int .i64 0, .string ⟨#[]⟩, .slice none 0 0, .slice none 0 0, .slice none 0 0] #[]) rfl (by kernel_rfl) (by kernel_rfl) (by kernel_rfl) (fun _ _ _ h => h) (fun l w' hC hl hS => hS) (fun l w' => Iff.rfl) (fun _ ho => by cases ho; exact Or.inl ⟨by rfl, fun w' hB => by have h0 := hB.2.cell 0; have h1 := hB.2.cell 1; have h2 := hB.2.cell 2; have h3 := hB.2.cell 3; have h4 := hB.2.cell 4; have h5 := hB.2.cell 5; go_simp⟩) hC hS (fun hC hS => ?_)
    simp only [Act.put, List.setIfInBounds_toArray, List.set_cons_zero, List.set_cons_succ]
    refine AnyL.take (i := 14) (v := .agg #[.int .i64 6, .int .i64 fa, .string ta, .slice A1 n1 m1, .slice A2 n2 m2, .slice A3 n3 m3]) (some 30) (Duo w.heap.size #[.int .i64 6, .int .i64 fa, .string ta, .slice A1 n1 m1, .slice A2 n2 m2, .slice A3 n3 m3] w3.heap.size #[.int .i64 6, .int .i64 0, .string ⟨#[]⟩, .slice none 0 0, .slice none 0 0, .slice none 0 0] #[]) rfl (by kernel_rfl) (by kernel_rfl) (by kernel_rfl) (fun _ _ _ h => h) (fun l w' hC hl hS => hS) (fun l w' => Iff.rfl) (fun _ ho => by cases ho; exact Or.inl ⟨by rfl, fun w' hB => by have h0 := hB.1.cell 0; have h1 := hB.1.cell 1; have h2 := hB.1.cell 2; have h3 := hB.1.cell 3; have h4 := hB.1.cell 4; have h5 := hB.1.cell 5; go_simp⟩) hC hS (fun hC hS => ?_)
    simp only [Act.put, List.setIfInBounds_toArray, List.set_cons_zero, List.set_cons_succ]
    refine AnyL.take (i := 16) (v := .agg #[.int .i64 6, .int .i64 fa, .string ta, .slice A1 n1 m1, .slice A2 n2 m2, .slice A3 n3 m3]) (some 32) (Duo w.heap.size #[.int .i64 6, .int .i64 fa, .string ta, .slice A1 n1 m1, .slice A2 n2 m2, .slice A3 n3 m3] w3.heap.size #[.int .i64 6, .int .i64 0, .string ⟨#[]⟩, .slice none 0 0, .slice none 0 0, .slice none 0 0] #[]) rfl (by kernel_rfl) (by kernel_rfl) (by kernel_rfl) (fun _ _ _ h => h) (fun l w' hC hl hS => hS) (fun l w' => Iff.rfl) (fun _ ho => by cases ho; exact Or.inl ⟨by rfl, fun w' hB => by have h0 := hB.1.cell 0; have h1 := hB.1.cell 1; have h2 := hB.1.cell 2; have h3 := hB.1.cell 3; have h4 := hB.1.cell 4; have h5 := hB.1.cell 5; go_simp⟩) hC hS (fun hC hS => ?_)
    simp only [Act.put, List.setIfInBounds_toArray, List.set_cons_zero, List.set_cons_succ]
    have hh := merge_any GA.out SA.out HK6.out (.inr rfl) (.inl rfl) (.inr rfl) _ ok _ _ _ _ _ _ _ _ _ _ _ _ (E.out.old HW.out) (C.out.old HW.out)
    have HH := Lib.hid hh
    clear hh
    refine AnyL.next 15 (by kernel_rfl) hC (fun o ho K hK => ?_)
    cases ho
    go_simp
    refine HH.out.mono ?_
    rintro e w9 ⟨g0, g1, g2, g3, g4, g5, rfl, hk, ho⟩
    have HR := Lib.hid hk
    replace HB := Lib.hid (HB.out.old (l' := #[]) ho)
    replace HW := Lib.hid (HW.out.trans ho)
    clear hk ho HH
    refine hK.out _ _ (HB.out.old (Old.refl _)) (fun hC hS => ?_)
    clear hK K
    have hh := given_any GA.out _ _ _ _ _ _ _ _ _ _ _ _ _ _ _ HR.out (C.out.old HW.out)
    have HH := Lib.hid hh
    clear hh
    refine AnyL.next 17 (by kernel_rfl) hC (fun o ho K hK => ?_)
    cases ho
    go_simp
    refine HH.out.mono ?_
    rintro e w10 ⟨rfl, ho⟩
    replace HB := Lib.hid (HB.out.old (l' := #[]) ho)
    replace HW := Lib.hid (HW.out.trans ho)
    clear ho HH HR
    refine hK.out _ _ (HB.out.old (Old.refl _)) (fun hC hS => ?_)
    clear hK K
    refine AnyL.take (i := 18) (v := .bool true) (some 34) (fun _ => True) rfl (by kernel_rfl) (by kernel_rfl) (by kernel_rfl) (fun _ _ _ h => h) (fun _ _ _ _ _ => trivial) (fun l w' => Iff.rfl) (fun _ ho => by cases ho; exact Or.inl ⟨by rfl, fun w' _ => by go_simp⟩) hC hS (fun hC hS => ?_)
    simp only [Act.put, List.setIfInBounds_toArray, List.set_cons_zero, List.set_cons_succ]
    refine AnyL.take (i := 19) (v := .bool true) (some 2) (fun _ => True) rfl (by kernel_rfl) (by kernel_rfl) (by kernel_rfl) (fun _ _ _ h => h) (fun _ _ _ _ _ => trivial) (fun l w' => Iff.rfl) (fun _ ho => by cases ho; exact Or.inl ⟨by rfl, fun w' _ => by go_simp⟩) hC hS (fun hC hS => ?_)
    simp only [Act.put, List.setIfInBounds_toArray, List.set_cons_zero, List.set_cons_succ]
    refine AnyL.done (by kernel_rfl) ?_ _
    clear hC hS
    go_wp2
    go_ret
    exact ⟨rfl, HW.out⟩
  · go_enter Tryd.func5, Tryd.ntmps5
    go_wp2_with (first
      | (go_at_call 8; go_must (refine (fits1_any a HA.out _ ok _ _ _ _ _ _ (C.out.old HO.out)).mono ?_; rintro e w1 ⟨b1, rfl, ho1, _⟩; have HO1 := Lib.hid ho1; have bA := BA.out.old HO1.out; have x0 : w1.cell? ⟨w.heap.size, 0, none⟩ = some (.int .i64 ka) := bA.cell 0; have x1 : w1.cell? ⟨w.heap.size, 1, none⟩ = some (.int .i64 fa) := bA.cell 1; have x2 : w1.cell? ⟨w.heap.size, 2, none⟩ = some (.string ta) := bA.cell 2; have x3 : w1.cell? ⟨w.heap.size, 3, none⟩ = some (.slice A1 n1 m1) := bA.cell 3; have x4 : w1.cell? ⟨w.heap.size, 4, none⟩ = some (.slice A2 n2 m2) := bA.cell 4; have x5 : w1.cell? ⟨w.heap.size, 5, none⟩ = some (.slice A3 n3 m3) := bA.cell 5; have hl : w.heap.size < w1.heap.size := bA.lt; clear bA; clear ho1; cases b1))
      | (go_at_call 18; go_must (refine (fit_any HA.out _ ok _ _ _ _ _ _ (C.out.old (HO.out.trans HO1.out)) (HT.out.old (HO.out.trans HO1.out))).mono ?_; rintro e w3 ⟨b3, rfl, ho3, hg3⟩; have HO3 := Lib.hid (HO1.out.trans ho3); have HG := Lib.hid hg3; clear x0 x1 x2 x3 x4 x5 hl; have bAb := BA.out.old HO3.out; have x0b : w3.cell? ⟨w.heap.size, 0, none⟩ = some (.int .i64 ka) := bAb.cell 0; have x1b : w3.cell? ⟨w.heap.size, 1, none⟩ = some (.int .i64 fa) := bAb.cell 1; have x2b : w3.cell? ⟨w.heap.size, 2, none⟩ = some (.string ta) := bAb.cell 2; have x3b : w3.cell? ⟨w.heap.size, 3, none⟩ = some (.slice A1 n1 m1) := bAb.cell 3; have x4b : w3.cell? ⟨w.heap.size, 4, none⟩ = some (.slice A2 n2 m2) := bAb.cell 4; have x5b : w3.cell? ⟨w.heap.size, 5, none⟩ = some (.slice A3 n3 m3) := bAb.cell 5; have hlb : w.heap.size < w3.heap.size := bAb.lt; clear bAb; clear ho3 hg3; cases b3)))
    all_goals
      go_ret
      first | exact ⟨rfl, HO.out.trans HO3.out⟩ | exact ⟨rfl, HO.out.trans HO1.out⟩
end Go.Proofs.YtpoanncombcemaaDoor
