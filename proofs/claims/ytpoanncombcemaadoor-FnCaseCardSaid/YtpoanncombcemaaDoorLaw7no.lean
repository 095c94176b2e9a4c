/-
  ascii_downcase and ascii_upcase turn the letters a to z and A to Z of a text, and nothing else; an error for what is no text: the walk for what is no text.
  Conditions: none.
-/
import Derived.Test.YtpoanncombcemaaDoorLaw7c
import Derived.Deep.LoopGhost
namespace Go.Proofs.YtpoanncombcemaaDoor
open Go.RowKit
attribute [local go_sem ↓] Go.wp_at_zero Go.wp_at_succ

theorem AnyL.opaque {P : Program} {ops : Array Oper} {Q : Exit → Act → World → Prop} {md : Region.Mode} {S : Array Bool → World → Prop} {fuel : Nat} {l : Array Bool} {a : Act} {w : World} {F : World → Prop} (hF : F w) (h : ∀ W, F W → AnyL P md ops Q S fuel l a W) : AnyL P md ops Q S fuel l a w := h w hF
theorem Blk.new_after {w W : World} {B : Nat} (_ : Old w W) (hB : W.heap.size = B) (cs : Array Value) (t : TypeId) : Blk (W.alloc (.cells cs t)) B cs t := Blk.new_ hB cs t

set_option maxHeartbeats 4000000 in
set_option maxRecDepth 100000 in
theorem law7_no {a : V} (h4 : a.kind ≠ 4) (ha : Sized a) (w : World) (ok : Nat → Prop) (c0 c1 c2 c3 c4 c5 : Value) (hc : KV w ok a [c0, c1, c2, c3, c4, c5]) (hT : Tabs w) :
    Calls Tryd.prog 7 #[.agg #[c0, c1, c2, c3, c4, c5]] w (Yes w) := by
  obtain ⟨A1, n1, m1, A2, n2, m2, A3, n3, m3, rfl, rfl, rfl, rfl, rfl, rfl⟩ := shape hc
  obtain ⟨ka, hka⟩ : ∃ x, x = a.kind := ⟨_, rfl⟩
  obtain ⟨fa, hfa⟩ : ∃ x, x = a.half := ⟨_, rfl⟩
  obtain ⟨ta, hta⟩ : ∃ x, x = a.text := ⟨_, rfl⟩
  rw [← hka] at h4
  rw [← hka, ← hfa, ← hta] at hc ⊢
  have C := Lib.hid hc
  have HT := Lib.hid hT
  have HA := Lib.hid ha
  have KA := Lib.hid hka
  have TA := Lib.hid hta
  have hsz : ∀ x ∈ [a], Sized x := fun x hx => by
    obtain rfl := List.mem_singleton.1 hx
    exact ha
  have HS := Lib.hid hsz
  have HO := Lib.hid ((Old.refl w).alloc (.cells #[.int .i64 ka, .int .i64 fa, .string ta, .slice A1 n1 m1, .slice A2 n2 m2, .slice A3 n3 m3] 26))
  have BA := Lib.hid (Blk.new w #[.int .i64 ka, .int .i64 fa, .string ta, .slice A1 n1 m1, .slice A2 n2 m2, .slice A3 n3 m3] 26)
  clear hc hT ha hka hfa hta hsz
  · go_enter Tryd.func7, Tryd.ntmps7
    go_upto_region 5 with (first
      | (go_at_call 8; go_must (refine (fits1_any a HA.out _ ok _ _ _ _ _ _ (C.out.old HO.out)).mono ?_; rintro e w1 ⟨b1, rfl, ho1, _⟩; have HO1 := Lib.hid ho1; have bA := BA.out.old HO1.out; have x0 : w1.cell? ⟨w.heap.size, 0, none⟩ = some (.int .i64 ka) := bA.cell 0; have x1 : w1.cell? ⟨w.heap.size, 1, none⟩ = some (.int .i64 fa) := bA.cell 1; have x2 : w1.cell? ⟨w.heap.size, 2, none⟩ = some (.string ta) := bA.cell 2; have x3 : w1.cell? ⟨w.heap.size, 3, none⟩ = some (.slice A1 n1 m1) := bA.cell 3; have x4 : w1.cell? ⟨w.heap.size, 4, none⟩ = some (.slice A2 n2 m2) := bA.cell 4; have x5 : w1.cell? ⟨w.heap.size, 5, none⟩ = some (.slice A3 n3 m3) := bA.cell 5; have hl : w.heap.size < w1.heap.size := bA.lt; clear bA; clear ho1; cases b1))
      | (go_at_call 20; go_must (refine (fine_any HS.out (by simp) _ _ _ (one_list C.out _ (HO.out.trans HO1.out)) (HT.out.old ((HO.out.trans HO1.out).alloc _))).mono ?_; rintro e w2 ⟨b2, rfl, ho2, hg2⟩; have HO2 := Lib.hid (HO1.out.trans (((Old.refl w1).alloc _).trans ho2)); have HG := Lib.hid hg2; clear x0 x1 x2 x3 x4 x5 hl; have bAb := BA.out.old HO2.out; have x0b : w2.cell? ⟨w.heap.size, 0, none⟩ = some (.int .i64 ka) := bAb.cell 0; have x1b : w2.cell? ⟨w.heap.size, 1, none⟩ = some (.int .i64 fa) := bAb.cell 1; have x2b : w2.cell? ⟨w.heap.size, 2, none⟩ = some (.string ta) := bAb.cell 2; have x3b : w2.cell? ⟨w.heap.size, 3, none⟩ = some (.slice A1 n1 m1) := bAb.cell 3; have x4b : w2.cell? ⟨w.heap.size, 4, none⟩ = some (.slice A2 n2 m2) := bAb.cell 4; have x5b : w2.cell? ⟨w.heap.size, 5, none⟩ = some (.slice A3 n3 m3) := bAb.cell 5; have hlb : w.heap.size < w2.heap.size := bAb.lt; clear bAb; clear ho2 hg2; cases b2)))
    · go_ret
      exact ⟨rfl, HO.out.trans HO1.out⟩
    · go_ret
      exact ⟨rfl, HO.out.trans HO2.out⟩
    have hg := HG.out trivial a (by simp)
    have GA := Lib.hid hg.1.1
    have K4 := Lib.hid (show a.kind ≠ 4 by rw [← KA.out]; exact h4)
    clear hg HG x0b x1b x2b x3b x4b x5b hlb
    go_cut [3, 4] from 18 to 79 (fun s3 s4 wx => ∃ b3 b4, s3 = .pointer (some ⟨b3, 0, none⟩) ∧ s4 = .pointer (some ⟨b4, 0, none⟩) ∧ Blk wx b3 #[.int .i64 0, .int .i64 0, .string ⟨#[]⟩, .slice none 0 0, .slice none 0 0, .slice none 0 0, .int .i64 1] 31 ∧ Blk wx b4 #[.int .i64 0, .int .i64 0, .string ⟨#[]⟩, .slice none 0 0, .slice none 0 0, .slice none 0 0, .int .i64 1] 31 ∧ Old w2 wx)
    case first =>
      refine AnyL.region 8 (S := (Til 3 (fun w' => Blk w' w.heap.size #[.int .i64 ka, .int .i64 fa, .string ta, .slice A1 n1 m1, .slice A2 n2 m2, .slice A3 n3 m3] 26))) rfl (by kernel_rfl) (fun hC => ?_)
      have hS : Til 3 (fun w' => Blk w' w.heap.size #[.int .i64 ka, .int .i64 fa, .string ta, .slice A1 n1 m1, .slice A2 n2 m2, .slice A3 n3 m3] 26) (Array.replicate 8 false) w2.drew := Til.mk ((BA.out.old HO2.out).drew)
      have HB := Lib.hid ((BA.out.old HO2.out).drew)
      have HW := Lib.hid (HO.out.trans HO2.out).drew
      have HW2 := Lib.hid ((Old.refl w2).drew)
      refine AnyL.take (i := 0) (v := .agg #[.int .i64 ka, .int .i64 fa, .string ta, .slice A1 n1 m1, .slice A2 n2 m2, .slice A3 n3 m3]) (some 18) (fun w' => Blk w' w.heap.size #[.int .i64 ka, .int .i64 fa, .string ta, .slice A1 n1 m1, .slice A2 n2 m2, .slice A3 n3 m3] 26) rfl (by kernel_rfl) (by kernel_rfl) (by kernel_rfl) (fun _ _ _ h => h) (fun l w' hC hl hS => hS (hC.un (j := 3) (i := 1) (by kernel_rfl) (hC.un (j := 1) (i := 0) (by kernel_rfl) hl))) (fun l w' => Til.set (by decide) l w') (fun _ ho => by cases ho; exact Or.inl ⟨by rfl, fun w' hB => by have h0 := hB.cell 0; have h1 := hB.cell 1; have h2 := hB.cell 2; have h3 := hB.cell 3; have h4 := hB.cell 4; have h5 := hB.cell 5; go_simp⟩) hC hS (fun hC hS => ?_)
      simp only [Act.put, List.setIfInBounds_toArray, List.set_cons_zero, List.set_cons_succ]
      refine AnyL.take (i := 2) (v := .agg #[.int .i64 ka, .int .i64 fa, .string ta, .slice A1 n1 m1, .slice A2 n2 m2, .slice A3 n3 m3]) (some 20) (fun w' => Blk w' w.heap.size #[.int .i64 ka, .int .i64 fa, .string ta, .slice A1 n1 m1, .slice A2 n2 m2, .slice A3 n3 m3] 26) rfl (by kernel_rfl) (by kernel_rfl) (by kernel_rfl) (fun _ _ _ h => h) (fun l w' hC hl hS => hS (hC.un (j := 3) (i := 2) (by kernel_rfl) hl)) (fun l w' => Til.set (by decide) l w') (fun _ ho => by cases ho; exact Or.inl ⟨by rfl, fun w' hB => by have h0 := hB.cell 0; have h1 := hB.cell 1; have h2 := hB.cell 2; have h3 := hB.cell 3; have h4 := hB.cell 4; have h5 := hB.cell 5; go_simp⟩) hC hS (fun hC hS => ?_)
      simp only [Act.put, List.setIfInBounds_toArray, List.set_cons_zero, List.set_cons_succ]
      refine AnyL.each [1, 4, 5] (by kernel_rfl) (by simp) hC (fun i hi o ho K hK => ?_)
      simp only [List.mem_cons, List.mem_nil_iff, or_false] at hi
      rcases hi with rfl | rfl | rfl
      ·
        cases ho
        have hh := down_else GA.out K4.out _ ok _ _ _ _ _ _ (C.out.old HW.out)
        have HH := Lib.hid hh
        clear hh
        go_simp
        refine HH.out.mono ?_
        rintro e w3 ⟨rfl, ho⟩
        have hsw3 := ho.size
        try simp at hsw3
        replace HB := Lib.hid (HB.out.old ho)
        replace HW := Lib.hid (HW.out.trans ho)
        replace HW2 := Lib.hid (HW2.out.trans ho)
        clear ho HH
        refine hK.out _ _ (Til.mk HB.out) (fun hC hS => ?_)
        clear hK K
        refine AnyL.each [3, 4, 5] (by kernel_rfl) (by simp) hC (fun i hi o ho K hK => ?_)
        simp only [List.mem_cons, List.mem_nil_iff, or_false] at hi
        rcases hi with rfl | rfl | rfl
        ·
          cases ho
          have hh := up_else GA.out K4.out _ ok _ _ _ _ _ _ (C.out.old HW.out)
          have HH := Lib.hid hh
          clear hh
          go_simp
          refine HH.out.mono ?_
          rintro e w4 ⟨rfl, ho⟩
          have hsw4 := ho.size
          try simp at hsw4
          replace HB := Lib.hid (HB.out.old ho)
          replace HW := Lib.hid (HW.out.trans ho)
          replace HW2 := Lib.hid (HW2.out.trans ho)
          clear ho HH
          refine hK.out _ _ (Til.late (by rfl)) (fun hC hS => ?_)
          clear hK K
          refine AnyL.each [4, 5] (by kernel_rfl) (by simp) hC (fun i hi o ho K hK => ?_)
          simp only [List.mem_cons, List.mem_nil_iff, or_false] at hi
          rcases hi with rfl | rfl
          ·
            cases ho
            go_simp
            refine hK.out _ _ (Til.late (by rfl)) (fun hC hS => ?_)
            clear hK K
            have H3 := Lib.hid (Blk.new_after HW.out (B := w4.heap.size) (by simp) #[.int .i64 0, .int .i64 0, .string ⟨#[]⟩, .slice none 0 0, .slice none 0 0, .slice none 0 0, .int .i64 0] 31)
            replace HB := Lib.hid (HB.out.alloc (.cells #[.int .i64 0, .int .i64 0, .string ⟨#[]⟩, .slice none 0 0, .slice none 0 0, .slice none 0 0, .int .i64 0] 31))
            replace HW := Lib.hid (HW.out.alloc (.cells #[.int .i64 0, .int .i64 0, .string ⟨#[]⟩, .slice none 0 0, .slice none 0 0, .slice none 0 0, .int .i64 0] 31))
            replace HW2 := Lib.hid (HW2.out.alloc (.cells #[.int .i64 0, .int .i64 0, .string ⟨#[]⟩, .slice none 0 0, .slice none 0 0, .slice none 0 0, .int .i64 0] 31))
            refine AnyL.each [5] (by kernel_rfl) (by simp) hC (fun i hi o ho K hK => ?_)
            simp only [List.mem_cons, List.mem_nil_iff, or_false] at hi
            subst hi
            ·
              cases ho
              go_simp
              refine hK.out _ _ (Til.late (by rfl)) (fun hC hS => ?_)
              clear hK K
              replace H3 := Lib.hid (H3.out.alloc (.cells #[.int .i64 0, .int .i64 0, .string ⟨#[]⟩, .slice none 0 0, .slice none 0 0, .slice none 0 0, .int .i64 0] 31))
              have H4 := Lib.hid (Blk.new_after HW.out (B := w4.heap.size + 1) (by simp) #[.int .i64 0, .int .i64 0, .string ⟨#[]⟩, .slice none 0 0, .slice none 0 0, .slice none 0 0, .int .i64 0] 31)
              replace HB := Lib.hid (HB.out.alloc (.cells #[.int .i64 0, .int .i64 0, .string ⟨#[]⟩, .slice none 0 0, .slice none 0 0, .slice none 0 0, .int .i64 0] 31))
              replace HW := Lib.hid (HW.out.alloc (.cells #[.int .i64 0, .int .i64 0, .string ⟨#[]⟩, .slice none 0 0, .slice none 0 0, .slice none 0 0, .int .i64 0] 31))
              replace HW2 := Lib.hid (HW2.out.alloc (.cells #[.int .i64 0, .int .i64 0, .string ⟨#[]⟩, .slice none 0 0, .slice none 0 0, .slice none 0 0, .int .i64 0] 31))
              have hne : w4.heap.size ≠ w4.heap.size + 1 := by omega
              have hne2 : w4.heap.size + 1 ≠ w4.heap.size := by omega
              obtain ⟨b3, hb3⟩ : ∃ x, x = w4.heap.size := ⟨_, rfl⟩
              obtain ⟨b4, hb4⟩ : ∃ x, x = w4.heap.size + 1 := ⟨_, rfl⟩
              have H3b := H3.out
              have H4b := H4.out
              rw [← hb4] at H4b hne hne2 ⊢
              rw [← hb3] at H3b hne hne2 ⊢
              refine AnyL.opaque (F := fun W => Blk W b3 #[.int .i64 0, .int .i64 0, .string ⟨#[]⟩, .slice none 0 0, .slice none 0 0, .slice none 0 0, .int .i64 0] 31 ∧ Blk W b4 #[.int .i64 0, .int .i64 0, .string ⟨#[]⟩, .slice none 0 0, .slice none 0 0, .slice none 0 0, .int .i64 0] 31 ∧ Old w2 W) ⟨H3b, H4b, HW2.out⟩ ?_
              clear H3 H4 H3b H4b HW HB HW2 hS
              rintro W ⟨H3, H4, HW2⟩
              have hw3 : w2.heap.size ≤ b3 := by omega
              have hw4 : w2.heap.size ≤ b4 := by omega
              clear hb3 hb4
              have y30 : W.cell? ⟨b3, 0, none⟩ = some (.int .i64 0) := H3.cell 0
              have v30 : W.frozen? ⟨b3, 0, none⟩ = false := H3.frozen 0
              have y31 : W.cell? ⟨b3, 1, none⟩ = some (.int .i64 0) := H3.cell 1
              have v31 : W.frozen? ⟨b3, 1, none⟩ = false := H3.frozen 1
              have y32 : W.cell? ⟨b3, 2, none⟩ = some (.string ⟨#[]⟩) := H3.cell 2
              have v32 : W.frozen? ⟨b3, 2, none⟩ = false := H3.frozen 2
              have y33 : W.cell? ⟨b3, 3, none⟩ = some (.slice none 0 0) := H3.cell 3
              have v33 : W.frozen? ⟨b3, 3, none⟩ = false := H3.frozen 3
              have y34 : W.cell? ⟨b3, 4, none⟩ = some (.slice none 0 0) := H3.cell 4
              have v34 : W.frozen? ⟨b3, 4, none⟩ = false := H3.frozen 4
              have y35 : W.cell? ⟨b3, 5, none⟩ = some (.slice none 0 0) := H3.cell 5
              have v35 : W.frozen? ⟨b3, 5, none⟩ = false := H3.frozen 5
              have y36 : W.cell? ⟨b3, 6, none⟩ = some (.int .i64 0) := H3.cell 6
              have v36 : W.frozen? ⟨b3, 6, none⟩ = false := H3.frozen 6
              have l3 : b3 < W.heap.size := H3.lt
              have y40 : W.cell? ⟨b4, 0, none⟩ = some (.int .i64 0) := H4.cell 0
              have v40 : W.frozen? ⟨b4, 0, none⟩ = false := H4.frozen 0
              have y41 : W.cell? ⟨b4, 1, none⟩ = some (.int .i64 0) := H4.cell 1
              have v41 : W.frozen? ⟨b4, 1, none⟩ = false := H4.frozen 1
              have y42 : W.cell? ⟨b4, 2, none⟩ = some (.string ⟨#[]⟩) := H4.cell 2
              have v42 : W.frozen? ⟨b4, 2, none⟩ = false := H4.frozen 2
              have y43 : W.cell? ⟨b4, 3, none⟩ = some (.slice none 0 0) := H4.cell 3
              have v43 : W.frozen? ⟨b4, 3, none⟩ = false := H4.frozen 3
              have y44 : W.cell? ⟨b4, 4, none⟩ = some (.slice none 0 0) := H4.cell 4
              have v44 : W.frozen? ⟨b4, 4, none⟩ = false := H4.frozen 4
              have y45 : W.cell? ⟨b4, 5, none⟩ = some (.slice none 0 0) := H4.cell 5
              have v45 : W.frozen? ⟨b4, 5, none⟩ = false := H4.frozen 5
              have y46 : W.cell? ⟨b4, 6, none⟩ = some (.int .i64 0) := H4.cell 6
              have v46 : W.frozen? ⟨b4, 6, none⟩ = false := H4.frozen 6
              have l4 : b4 < W.heap.size := H4.lt
              replace H3 := Lib.hid H3
              replace H4 := Lib.hid H4
              replace HW2 := Lib.hid HW2
              refine AnyL.nxt 6 (by kernel_rfl) hC (fun o ho K hK => ?_)
              cases ho
              go_simp
              refine hK.out _ _ (Til.late (by rfl)) (fun hC hS => ?_)
              clear hK K
              refine AnyL.nxt 7 (by kernel_rfl) hC (fun o ho K hK => ?_)
              cases ho
              go_simp
              refine hK.out _ _ (Til.late (by rfl)) (fun hC hS => ?_)
              clear hK K
              refine AnyL.done (by kernel_rfl) ?_ _
              clear hC hS
              go_wp2_with fail
              go_meet
              exact ⟨b3, b4, rfl, rfl, (H3.out.seven (.int .i64 0) (.int .i64 0) (.string ⟨#[]⟩) (.slice none 0 0) (.slice none 0 0) (.slice none 0 0) (.int .i64 1)).seven_far hne (.int .i64 0) (.int .i64 0) (.string ⟨#[]⟩) (.slice none 0 0) (.slice none 0 0) (.slice none 0 0) (.int .i64 1), (H4.out.seven_far hne2 (.int .i64 0) (.int .i64 0) (.string ⟨#[]⟩) (.slice none 0 0) (.slice none 0 0) (.slice none 0 0) (.int .i64 1)).seven (.int .i64 0) (.int .i64 0) (.string ⟨#[]⟩) (.slice none 0 0) (.slice none 0 0) (.slice none 0 0) (.int .i64 1), Old.chg_ (Old.chg_ HW2.out (seven_stores _ b3 (.int .i64 0) (.int .i64 0) (.string ⟨#[]⟩) (.slice none 0 0) (.slice none 0 0) (.slice none 0 0) (.int .i64 1)) fun i hi => by omega) (seven_stores _ b4 (.int .i64 0) (.int .i64 0) (.string ⟨#[]⟩) (.slice none 0 0) (.slice none 0 0) (.slice none 0 0) (.int .i64 1)) fun i hi => by omega⟩
          ·
            cases ho
            go_simp
            refine hK.out _ _ (Til.late (by rfl)) (fun hC hS => ?_)
            clear hK K
            have H4 := Lib.hid (Blk.new_after HW.out (B := w4.heap.size) (by simp) #[.int .i64 0, .int .i64 0, .string ⟨#[]⟩, .slice none 0 0, .slice none 0 0, .slice none 0 0, .int .i64 0] 31)
            replace HB := Lib.hid (HB.out.alloc (.cells #[.int .i64 0, .int .i64 0, .string ⟨#[]⟩, .slice none 0 0, .slice none 0 0, .slice none 0 0, .int .i64 0] 31))
            replace HW := Lib.hid (HW.out.alloc (.cells #[.int .i64 0, .int .i64 0, .string ⟨#[]⟩, .slice none 0 0, .slice none 0 0, .slice none 0 0, .int .i64 0] 31))
            replace HW2 := Lib.hid (HW2.out.alloc (.cells #[.int .i64 0, .int .i64 0, .string ⟨#[]⟩, .slice none 0 0, .slice none 0 0, .slice none 0 0, .int .i64 0] 31))
            refine AnyL.each [4] (by kernel_rfl) (by simp) hC (fun i hi o ho K hK => ?_)
            simp only [List.mem_cons, List.mem_nil_iff, or_false] at hi
            subst hi
            ·
              cases ho
              go_simp
              refine hK.out _ _ (Til.late (by rfl)) (fun hC hS => ?_)
              clear hK K
              replace H4 := Lib.hid (H4.out.alloc (.cells #[.int .i64 0, .int .i64 0, .string ⟨#[]⟩, .slice none 0 0, .slice none 0 0, .slice none 0 0, .int .i64 0] 31))
              have H3 := Lib.hid (Blk.new_after HW.out (B := w4.heap.size + 1) (by simp) #[.int .i64 0, .int .i64 0, .string ⟨#[]⟩, .slice none 0 0, .slice none 0 0, .slice none 0 0, .int .i64 0] 31)
              replace HB := Lib.hid (HB.out.alloc (.cells #[.int .i64 0, .int .i64 0, .string ⟨#[]⟩, .slice none 0 0, .slice none 0 0, .slice none 0 0, .int .i64 0] 31))
              replace HW := Lib.hid (HW.out.alloc (.cells #[.int .i64 0, .int .i64 0, .string ⟨#[]⟩, .slice none 0 0, .slice none 0 0, .slice none 0 0, .int .i64 0] 31))
              replace HW2 := Lib.hid (HW2.out.alloc (.cells #[.int .i64 0, .int .i64 0, .string ⟨#[]⟩, .slice none 0 0, .slice none 0 0, .slice none 0 0, .int .i64 0] 31))
              have hne : w4.heap.size + 1 ≠ w4.heap.size := by omega
              have hne2 : w4.heap.size ≠ w4.heap.size + 1 := by omega
              obtain ⟨b3, hb3⟩ : ∃ x, x = w4.heap.size + 1 := ⟨_, rfl⟩
              obtain ⟨b4, hb4⟩ : ∃ x, x = w4.heap.size := ⟨_, rfl⟩
              have H3b := H3.out
              have H4b := H4.out
              rw [← hb3] at H3b hne hne2 ⊢
              rw [← hb4] at H4b hne hne2 ⊢
              refine AnyL.opaque (F := fun W => Blk W b3 #[.int .i64 0, .int .i64 0, .string ⟨#[]⟩, .slice none 0 0, .slice none 0 0, .slice none 0 0, .int .i64 0] 31 ∧ Blk W b4 #[.int .i64 0, .int .i64 0, .string ⟨#[]⟩, .slice none 0 0, .slice none 0 0, .slice none 0 0, .int .i64 0] 31 ∧ Old w2 W) ⟨H3b, H4b, HW2.out⟩ ?_
              clear H3 H4 H3b H4b HW HB HW2 hS
              rintro W ⟨H3, H4, HW2⟩
              have hw3 : w2.heap.size ≤ b3 := by omega
              have hw4 : w2.heap.size ≤ b4 := by omega
              clear hb3 hb4
              have y30 : W.cell? ⟨b3, 0, none⟩ = some (.int .i64 0) := H3.cell 0
              have v30 : W.frozen? ⟨b3, 0, none⟩ = false := H3.frozen 0
              have y31 : W.cell? ⟨b3, 1, none⟩ = some (.int .i64 0) := H3.cell 1
              have v31 : W.frozen? ⟨b3, 1, none⟩ = false := H3.frozen 1
              have y32 : W.cell? ⟨b3, 2, none⟩ = some (.string ⟨#[]⟩) := H3.cell 2
              have v32 : W.frozen? ⟨b3, 2, none⟩ = false := H3.frozen 2
              have y33 : W.cell? ⟨b3, 3, none⟩ = some (.slice none 0 0) := H3.cell 3
              have v33 : W.frozen? ⟨b3, 3, none⟩ = false := H3.frozen 3
              have y34 : W.cell? ⟨b3, 4, none⟩ = some (.slice none 0 0) := H3.cell 4
              have v34 : W.frozen? ⟨b3, 4, none⟩ = false := H3.frozen 4
              have y35 : W.cell? ⟨b3, 5, none⟩ = some (.slice none 0 0) := H3.cell 5
              have v35 : W.frozen? ⟨b3, 5, none⟩ = false := H3.frozen 5
              have y36 : W.cell? ⟨b3, 6, none⟩ = some (.int .i64 0) := H3.cell 6
              have v36 : W.frozen? ⟨b3, 6, none⟩ = false := H3.frozen 6
              have l3 : b3 < W.heap.size := H3.lt
              have y40 : W.cell? ⟨b4, 0, none⟩ = some (.int .i64 0) := H4.cell 0
              have v40 : W.frozen? ⟨b4, 0, none⟩ = false := H4.frozen 0
              have y41 : W.cell? ⟨b4, 1, none⟩ = some (.int .i64 0) := H4.cell 1
              have v41 : W.frozen? ⟨b4, 1, none⟩ = false := H4.frozen 1
              have y42 : W.cell? ⟨b4, 2, none⟩ = some (.string ⟨#[]⟩) := H4.cell 2
              have v42 : W.frozen? ⟨b4, 2, none⟩ = false := H4.frozen 2
              have y43 : W.cell? ⟨b4, 3, none⟩ = some (.slice none 0 0) := H4.cell 3
              have v43 : W.frozen? ⟨b4, 3, none⟩ = false := H4.frozen 3
              have y44 : W.cell? ⟨b4, 4, none⟩ = some (.slice none 0 0) := H4.cell 4
              have v44 : W.frozen? ⟨b4, 4, none⟩ = false := H4.frozen 4
              have y45 : W.cell? ⟨b4, 5, none⟩ = some (.slice none 0 0) := H4.cell 5
              have v45 : W.frozen? ⟨b4, 5, none⟩ = false := H4.frozen 5
              have y46 : W.cell? ⟨b4, 6, none⟩ = some (.int .i64 0) := H4.cell 6
              have v46 : W.frozen? ⟨b4, 6, none⟩ = false := H4.frozen 6
              have l4 : b4 < W.heap.size := H4.lt
              replace H3 := Lib.hid H3
              replace H4 := Lib.hid H4
              replace HW2 := Lib.hid HW2
              refine AnyL.nxt 6 (by kernel_rfl) hC (fun o ho K hK => ?_)
              cases ho
              go_simp
              refine hK.out _ _ (Til.late (by rfl)) (fun hC hS => ?_)
              clear hK K
              refine AnyL.nxt 7 (by kernel_rfl) hC (fun o ho K hK => ?_)
              cases ho
              go_simp
              refine hK.out _ _ (Til.late (by rfl)) (fun hC hS => ?_)
              clear hK K
              refine AnyL.done (by kernel_rfl) ?_ _
              clear hC hS
              go_wp2_with fail
              go_meet
              exact ⟨b3, b4, rfl, rfl, (H3.out.seven (.int .i64 0) (.int .i64 0) (.string ⟨#[]⟩) (.slice none 0 0) (.slice none 0 0) (.slice none 0 0) (.int .i64 1)).seven_far hne (.int .i64 0) (.int .i64 0) (.string ⟨#[]⟩) (.slice none 0 0) (.slice none 0 0) (.slice none 0 0) (.int .i64 1), (H4.out.seven_far hne2 (.int .i64 0) (.int .i64 0) (.string ⟨#[]⟩) (.slice none 0 0) (.slice none 0 0) (.slice none 0 0) (.int .i64 1)).seven (.int .i64 0) (.int .i64 0) (.string ⟨#[]⟩) (.slice none 0 0) (.slice none 0 0) (.slice none 0 0) (.int .i64 1), Old.chg_ (Old.chg_ HW2.out (seven_stores _ b3 (.int .i64 0) (.int .i64 0) (.string ⟨#[]⟩) (.slice none 0 0) (.slice none 0 0) (.slice none 0 0) (.int .i64 1)) fun i hi => by omega) (seven_stores _ b4 (.int .i64 0) (.int .i64 0) (.string ⟨#[]⟩) (.slice none 0 0) (.slice none 0 0) (.slice none 0 0) (.int .i64 1)) fun i hi => by omega⟩
        ·
          cases ho
          go_simp
          refine hK.out _ _ (Til.mk (HB.out.old ((Old.refl _).alloc _))) (fun hC hS => ?_)
          clear hK K
          have H3 := Lib.hid (Blk.new_after HW.out (B := w3.heap.size) (by simp) #[.int .i64 0, .int .i64 0, .string ⟨#[]⟩, .slice none 0 0, .slice none 0 0, .slice none 0 0, .int .i64 0] 31)
          replace HB := Lib.hid (HB.out.alloc (.cells #[.int .i64 0, .int .i64 0, .string ⟨#[]⟩, .slice none 0 0, .slice none 0 0, .slice none 0 0, .int .i64 0] 31))
          replace HW := Lib.hid (HW.out.alloc (.cells #[.int .i64 0, .int .i64 0, .string ⟨#[]⟩, .slice none 0 0, .slice none 0 0, .slice none 0 0, .int .i64 0] 31))
          replace HW2 := Lib.hid (HW2.out.alloc (.cells #[.int .i64 0, .int .i64 0, .string ⟨#[]⟩, .slice none 0 0, .slice none 0 0, .slice none 0 0, .int .i64 0] 31))
          refine AnyL.each [3, 5] (by kernel_rfl) (by simp) hC (fun i hi o ho K hK => ?_)
          simp only [List.mem_cons, List.mem_nil_iff, or_false] at hi
          rcases hi with rfl | rfl
          ·
            cases ho
            have hh := up_else GA.out K4.out _ ok _ _ _ _ _ _ (C.out.old HW.out)
            have HH := Lib.hid hh
            clear hh
            go_simp
            refine HH.out.mono ?_
            rintro e w5 ⟨rfl, ho⟩
            have hsw5 := ho.size
            try simp at hsw5
            replace H3 := Lib.hid (H3.out.old ho)
            have y30 : w5.cell? ⟨w3.heap.size, 0, none⟩ = some (.int .i64 0) := H3.out.cell 0
            have v30 : w5.frozen? ⟨w3.heap.size, 0, none⟩ = false := H3.out.frozen 0
            have y31 : w5.cell? ⟨w3.heap.size, 1, none⟩ = some (.int .i64 0) := H3.out.cell 1
            have v31 : w5.frozen? ⟨w3.heap.size, 1, none⟩ = false := H3.out.frozen 1
            have y32 : w5.cell? ⟨w3.heap.size, 2, none⟩ = some (.string ⟨#[]⟩) := H3.out.cell 2
            have v32 : w5.frozen? ⟨w3.heap.size, 2, none⟩ = false := H3.out.frozen 2
            have y33 : w5.cell? ⟨w3.heap.size, 3, none⟩ = some (.slice none 0 0) := H3.out.cell 3
            have v33 : w5.frozen? ⟨w3.heap.size, 3, none⟩ = false := H3.out.frozen 3
            have y34 : w5.cell? ⟨w3.heap.size, 4, none⟩ = some (.slice none 0 0) := H3.out.cell 4
            have v34 : w5.frozen? ⟨w3.heap.size, 4, none⟩ = false := H3.out.frozen 4
            have y35 : w5.cell? ⟨w3.heap.size, 5, none⟩ = some (.slice none 0 0) := H3.out.cell 5
            have v35 : w5.frozen? ⟨w3.heap.size, 5, none⟩ = false := H3.out.frozen 5
            have y36 : w5.cell? ⟨w3.heap.size, 6, none⟩ = some (.int .i64 0) := H3.out.cell 6
            have v36 : w5.frozen? ⟨w3.heap.size, 6, none⟩ = false := H3.out.frozen 6
            have l3 : w3.heap.size < w5.heap.size := H3.out.lt
            replace HB := Lib.hid (HB.out.old ho)
            replace HW := Lib.hid (HW.out.trans ho)
            replace HW2 := Lib.hid (HW2.out.trans ho)
            clear ho HH
            refine hK.out _ _ (Til.late (by rfl)) (fun hC hS => ?_)
            clear hK K
            refine AnyL.each [5] (by kernel_rfl) (by simp) hC (fun i hi o ho K hK => ?_)
            simp only [List.mem_cons, List.mem_nil_iff, or_false] at hi
            subst hi
            ·
              cases ho
              go_simp
              refine hK.out _ _ (Til.late (by rfl)) (fun hC hS => ?_)
              clear hK K
              replace H3 := Lib.hid (H3.out.alloc (.cells #[.int .i64 0, .int .i64 0, .string ⟨#[]⟩, .slice none 0 0, .slice none 0 0, .slice none 0 0, .int .i64 0] 31))
              have H4 := Lib.hid (Blk.new_after HW.out (B := w5.heap.size) (by simp) #[.int .i64 0, .int .i64 0, .string ⟨#[]⟩, .slice none 0 0, .slice none 0 0, .slice none 0 0, .int .i64 0] 31)
              replace HB := Lib.hid (HB.out.alloc (.cells #[.int .i64 0, .int .i64 0, .string ⟨#[]⟩, .slice none 0 0, .slice none 0 0, .slice none 0 0, .int .i64 0] 31))
              replace HW := Lib.hid (HW.out.alloc (.cells #[.int .i64 0, .int .i64 0, .string ⟨#[]⟩, .slice none 0 0, .slice none 0 0, .slice none 0 0, .int .i64 0] 31))
              replace HW2 := Lib.hid (HW2.out.alloc (.cells #[.int .i64 0, .int .i64 0, .string ⟨#[]⟩, .slice none 0 0, .slice none 0 0, .slice none 0 0, .int .i64 0] 31))
              have hne : w3.heap.size ≠ w5.heap.size := by omega
              have hne2 : w5.heap.size ≠ w3.heap.size := by omega
              obtain ⟨b3, hb3⟩ : ∃ x, x = w3.heap.size := ⟨_, rfl⟩
              obtain ⟨b4, hb4⟩ : ∃ x, x = w5.heap.size := ⟨_, rfl⟩
              have H3b := H3.out
              have H4b := H4.out
              rw [← hb3] at H3b hne hne2 ⊢
              rw [← hb4] at H4b hne hne2 ⊢
              refine AnyL.opaque (F := fun W => Blk W b3 #[.int .i64 0, .int .i64 0, .string ⟨#[]⟩, .slice none 0 0, .slice none 0 0, .slice none 0 0, .int .i64 0] 31 ∧ Blk W b4 #[.int .i64 0, .int .i64 0, .string ⟨#[]⟩, .slice none 0 0, .slice none 0 0, .slice none 0 0, .int .i64 0] 31 ∧ Old w2 W) ⟨H3b, H4b, HW2.out⟩ ?_
              clear H3 H4 H3b H4b HW HB HW2 hS
              rintro W ⟨H3, H4, HW2⟩
              have hw3 : w2.heap.size ≤ b3 := by omega
              have hw4 : w2.heap.size ≤ b4 := by omega
              clear hb3 hb4
              have y30 : W.cell? ⟨b3, 0, none⟩ = some (.int .i64 0) := H3.cell 0
              have v30 : W.frozen? ⟨b3, 0, none⟩ = false := H3.frozen 0
              have y31 : W.cell? ⟨b3, 1, none⟩ = some (.int .i64 0) := H3.cell 1
              have v31 : W.frozen? ⟨b3, 1, none⟩ = false := H3.frozen 1
              have y32 : W.cell? ⟨b3, 2, none⟩ = some (.string ⟨#[]⟩) := H3.cell 2
              have v32 : W.frozen? ⟨b3, 2, none⟩ = false := H3.frozen 2
              have y33 : W.cell? ⟨b3, 3, none⟩ = some (.slice none 0 0) := H3.cell 3
              have v33 : W.frozen? ⟨b3, 3, none⟩ = false := H3.frozen 3
              have y34 : W.cell? ⟨b3, 4, none⟩ = some (.slice none 0 0) := H3.cell 4
              have v34 : W.frozen? ⟨b3, 4, none⟩ = false := H3.frozen 4
              have y35 : W.cell? ⟨b3, 5, none⟩ = some (.slice none 0 0) := H3.cell 5
              have v35 : W.frozen? ⟨b3, 5, none⟩ = false := H3.frozen 5
              have y36 : W.cell? ⟨b3, 6, none⟩ = some (.int .i64 0) := H3.cell 6
              have v36 : W.frozen? ⟨b3, 6, none⟩ = false := H3.frozen 6
              have l3 : b3 < W.heap.size := H3.lt
              have y40 : W.cell? ⟨b4, 0, none⟩ = some (.int .i64 0) := H4.cell 0
              have v40 : W.frozen? ⟨b4, 0, none⟩ = false := H4.frozen 0
              have y41 : W.cell? ⟨b4, 1, none⟩ = some (.int .i64 0) := H4.cell 1
              have v41 : W.frozen? ⟨b4, 1, none⟩ = false := H4.frozen 1
              have y42 : W.cell? ⟨b4, 2, none⟩ = some (.string ⟨#[]⟩) := H4.cell 2
              have v42 : W.frozen? ⟨b4, 2, none⟩ = false := H4.frozen 2
              have y43 : W.cell? ⟨b4, 3, none⟩ = some (.slice none 0 0) := H4.cell 3
              have v43 : W.frozen? ⟨b4, 3, none⟩ = false := H4.frozen 3
              have y44 : W.cell? ⟨b4, 4, none⟩ = some (.slice none 0 0) := H4.cell 4
              have v44 : W.frozen? ⟨b4, 4, none⟩ = false := H4.frozen 4
              have y45 : W.cell? ⟨b4, 5, none⟩ = some (.slice none 0 0) := H4.cell 5
              have v45 : W.frozen? ⟨b4, 5, none⟩ = false := H4.frozen 5
              have y46 : W.cell? ⟨b4, 6, none⟩ = some (.int .i64 0) := H4.cell 6
              have v46 : W.frozen? ⟨b4, 6, none⟩ = false := H4.frozen 6
              have l4 : b4 < W.heap.size := H4.lt
              replace H3 := Lib.hid H3
              replace H4 := Lib.hid H4
              replace HW2 := Lib.hid HW2
              refine AnyL.nxt 6 (by kernel_rfl) hC (fun o ho K hK => ?_)
              cases ho
              go_simp
              refine hK.out _ _ (Til.late (by rfl)) (fun hC hS => ?_)
              clear hK K
              refine AnyL.nxt 7 (by kernel_rfl) hC (fun o ho K hK => ?_)
              cases ho
              go_simp
              refine hK.out _ _ (Til.late (by rfl)) (fun hC hS => ?_)
              clear hK K
              refine AnyL.done (by kernel_rfl) ?_ _
              clear hC hS
              go_wp2_with fail
              go_meet
              exact ⟨b3, b4, rfl, rfl, (H3.out.seven (.int .i64 0) (.int .i64 0) (.string ⟨#[]⟩) (.slice none 0 0) (.slice none 0 0) (.slice none 0 0) (.int .i64 1)).seven_far hne (.int .i64 0) (.int .i64 0) (.string ⟨#[]⟩) (.slice none 0 0) (.slice none 0 0) (.slice none 0 0) (.int .i64 1), (H4.out.seven_far hne2 (.int .i64 0) (.int .i64 0) (.string ⟨#[]⟩) (.slice none 0 0) (.slice none 0 0) (.slice none 0 0) (.int .i64 1)).seven (.int .i64 0) (.int .i64 0) (.string ⟨#[]⟩) (.slice none 0 0) (.slice none 0 0) (.slice none 0 0) (.int .i64 1), Old.chg_ (Old.chg_ HW2.out (seven_stores _ b3 (.int .i64 0) (.int .i64 0) (.string ⟨#[]⟩) (.slice none 0 0) (.slice none 0 0) (.slice none 0 0) (.int .i64 1)) fun i hi => by omega) (seven_stores _ b4 (.int .i64 0) (.int .i64 0) (.string ⟨#[]⟩) (.slice none 0 0) (.slice none 0 0) (.slice none 0 0) (.int .i64 1)) fun i hi => by omega⟩
          ·
            cases ho
            go_simp
            refine hK.out _ _ (Til.mk (HB.out.old ((Old.refl _).alloc _))) (fun hC hS => ?_)
            clear hK K
            replace H3 := Lib.hid (H3.out.alloc (.cells #[.int .i64 0, .int .i64 0, .string ⟨#[]⟩, .slice none 0 0, .slice none 0 0, .slice none 0 0, .int .i64 0] 31))
            have H4 := Lib.hid (Blk.new_after HW.out (B := w3.heap.size + 1) (by simp) #[.int .i64 0, .int .i64 0, .string ⟨#[]⟩, .slice none 0 0, .slice none 0 0, .slice none 0 0, .int .i64 0] 31)
            replace HB := Lib.hid (HB.out.alloc (.cells #[.int .i64 0, .int .i64 0, .string ⟨#[]⟩, .slice none 0 0, .slice none 0 0, .slice none 0 0, .int .i64 0] 31))
            replace HW := Lib.hid (HW.out.alloc (.cells #[.int .i64 0, .int .i64 0, .string ⟨#[]⟩, .slice none 0 0, .slice none 0 0, .slice none 0 0, .int .i64 0] 31))
            replace HW2 := Lib.hid (HW2.out.alloc (.cells #[.int .i64 0, .int .i64 0, .string ⟨#[]⟩, .slice none 0 0, .slice none 0 0, .slice none 0 0, .int .i64 0] 31))
            refine AnyL.each [3] (by kernel_rfl) (by simp) hC (fun i hi o ho K hK => ?_)
            simp only [List.mem_cons, List.mem_nil_iff, or_false] at hi
            subst hi
            ·
              cases ho
              have hh := up_else GA.out K4.out _ ok _ _ _ _ _ _ (C.out.old HW.out)
              have HH := Lib.hid hh
              clear hh
              go_simp
              refine HH.out.mono ?_
              rintro e w6 ⟨rfl, ho⟩
              have hsw6 := ho.size
              try simp at hsw6
              replace H3 := Lib.hid (H3.out.old ho)
              have y30 : w6.cell? ⟨w3.heap.size, 0, none⟩ = some (.int .i64 0) := H3.out.cell 0
              have v30 : w6.frozen? ⟨w3.heap.size, 0, none⟩ = false := H3.out.frozen 0
              have y31 : w6.cell? ⟨w3.heap.size, 1, none⟩ = some (.int .i64 0) := H3.out.cell 1
              have v31 : w6.frozen? ⟨w3.heap.size, 1, none⟩ = false := H3.out.frozen 1
              have y32 : w6.cell? ⟨w3.heap.size, 2, none⟩ = some (.string ⟨#[]⟩) := H3.out.cell 2
              have v32 : w6.frozen? ⟨w3.heap.size, 2, none⟩ = false := H3.out.frozen 2
              have y33 : w6.cell? ⟨w3.heap.size, 3, none⟩ = some (.slice none 0 0) := H3.out.cell 3
              have v33 : w6.frozen? ⟨w3.heap.size, 3, none⟩ = false := H3.out.frozen 3
              have y34 : w6.cell? ⟨w3.heap.size, 4, none⟩ = some (.slice none 0 0) := H3.out.cell 4
              have v34 : w6.frozen? ⟨w3.heap.size, 4, none⟩ = false := H3.out.frozen 4
              have y35 : w6.cell? ⟨w3.heap.size, 5, none⟩ = some (.slice none 0 0) := H3.out.cell 5
              have v35 : w6.frozen? ⟨w3.heap.size, 5, none⟩ = false := H3.out.frozen 5
              have y36 : w6.cell? ⟨w3.heap.size, 6, none⟩ = some (.int .i64 0) := H3.out.cell 6
              have v36 : w6.frozen? ⟨w3.heap.size, 6, none⟩ = false := H3.out.frozen 6
              have l3 : w3.heap.size < w6.heap.size := H3.out.lt
              replace H4 := Lib.hid (H4.out.old ho)
              have y40 : w6.cell? ⟨w3.heap.size + 1, 0, none⟩ = some (.int .i64 0) := H4.out.cell 0
              have v40 : w6.frozen? ⟨w3.heap.size + 1, 0, none⟩ = false := H4.out.frozen 0
              have y41 : w6.cell? ⟨w3.heap.size + 1, 1, none⟩ = some (.int .i64 0) := H4.out.cell 1
              have v41 : w6.frozen? ⟨w3.heap.size + 1, 1, none⟩ = false := H4.out.frozen 1
              have y42 : w6.cell? ⟨w3.heap.size + 1, 2, none⟩ = some (.string ⟨#[]⟩) := H4.out.cell 2
              have v42 : w6.frozen? ⟨w3.heap.size + 1, 2, none⟩ = false := H4.out.frozen 2
              have y43 : w6.cell? ⟨w3.heap.size + 1, 3, none⟩ = some (.slice none 0 0) := H4.out.cell 3
              have v43 : w6.frozen? ⟨w3.heap.size + 1, 3, none⟩ = false := H4.out.frozen 3
              have y44 : w6.cell? ⟨w3.heap.size + 1, 4, none⟩ = some (.slice none 0 0) := H4.out.cell 4
              have v44 : w6.frozen? ⟨w3.heap.size + 1, 4, none⟩ = false := H4.out.frozen 4
              have y45 : w6.cell? ⟨w3.heap.size + 1, 5, none⟩ = some (.slice none 0 0) := H4.out.cell 5
              have v45 : w6.frozen? ⟨w3.heap.size + 1, 5, none⟩ = false := H4.out.frozen 5
              have y46 : w6.cell? ⟨w3.heap.size + 1, 6, none⟩ = some (.int .i64 0) := H4.out.cell 6
              have v46 : w6.frozen? ⟨w3.heap.size + 1, 6, none⟩ = false := H4.out.frozen 6
              have l4 : w3.heap.size + 1 < w6.heap.size := H4.out.lt
              replace HB := Lib.hid (HB.out.old ho)
              replace HW := Lib.hid (HW.out.trans ho)
              replace HW2 := Lib.hid (HW2.out.trans ho)
              clear ho HH
              refine hK.out _ _ (Til.late (by rfl)) (fun hC hS => ?_)
              clear hK K
              have hne : w3.heap.size ≠ w3.heap.size + 1 := by omega
              have hne2 : w3.heap.size + 1 ≠ w3.heap.size := by omega
              obtain ⟨b3, hb3⟩ : ∃ x, x = w3.heap.size := ⟨_, rfl⟩
              obtain ⟨b4, hb4⟩ : ∃ x, x = w3.heap.size + 1 := ⟨_, rfl⟩
              have H3b := H3.out
              have H4b := H4.out
              rw [← hb4] at H4b hne hne2 ⊢
              rw [← hb3] at H3b hne hne2 ⊢
              refine AnyL.opaque (F := fun W => Blk W b3 #[.int .i64 0, .int .i64 0, .string ⟨#[]⟩, .slice none 0 0, .slice none 0 0, .slice none 0 0, .int .i64 0] 31 ∧ Blk W b4 #[.int .i64 0, .int .i64 0, .string ⟨#[]⟩, .slice none 0 0, .slice none 0 0, .slice none 0 0, .int .i64 0] 31 ∧ Old w2 W) ⟨H3b, H4b, HW2.out⟩ ?_
              clear H3 H4 H3b H4b HW HB HW2 hS
              rintro W ⟨H3, H4, HW2⟩
              have hw3 : w2.heap.size ≤ b3 := by omega
              have hw4 : w2.heap.size ≤ b4 := by omega
              clear hb3 hb4
              have y30 : W.cell? ⟨b3, 0, none⟩ = some (.int .i64 0) := H3.cell 0
              have v30 : W.frozen? ⟨b3, 0, none⟩ = false := H3.frozen 0
              have y31 : W.cell? ⟨b3, 1, none⟩ = some (.int .i64 0) := H3.cell 1
              have v31 : W.frozen? ⟨b3, 1, none⟩ = false := H3.frozen 1
              have y32 : W.cell? ⟨b3, 2, none⟩ = some (.string ⟨#[]⟩) := H3.cell 2
              have v32 : W.frozen? ⟨b3, 2, none⟩ = false := H3.frozen 2
              have y33 : W.cell? ⟨b3, 3, none⟩ = some (.slice none 0 0) := H3.cell 3
              have v33 : W.frozen? ⟨b3, 3, none⟩ = false := H3.frozen 3
              have y34 : W.cell? ⟨b3, 4, none⟩ = some (.slice none 0 0) := H3.cell 4
              have v34 : W.frozen? ⟨b3, 4, none⟩ = false := H3.frozen 4
              have y35 : W.cell? ⟨b3, 5, none⟩ = some (.slice none 0 0) := H3.cell 5
              have v35 : W.frozen? ⟨b3, 5, none⟩ = false := H3.frozen 5
              have y36 : W.cell? ⟨b3, 6, none⟩ = some (.int .i64 0) := H3.cell 6
              have v36 : W.frozen? ⟨b3, 6, none⟩ = false := H3.frozen 6
              have l3 : b3 < W.heap.size := H3.lt
              have y40 : W.cell? ⟨b4, 0, none⟩ = some (.int .i64 0) := H4.cell 0
              have v40 : W.frozen? ⟨b4, 0, none⟩ = false := H4.frozen 0
              have y41 : W.cell? ⟨b4, 1, none⟩ = some (.int .i64 0) := H4.cell 1
              have v41 : W.frozen? ⟨b4, 1, none⟩ = false := H4.frozen 1
              have y42 : W.cell? ⟨b4, 2, none⟩ = some (.string ⟨#[]⟩) := H4.cell 2
              have v42 : W.frozen? ⟨b4, 2, none⟩ = false := H4.frozen 2
              have y43 : W.cell? ⟨b4, 3, none⟩ = some (.slice none 0 0) := H4.cell 3
              have v43 : W.frozen? ⟨b4, 3, none⟩ = false := H4.frozen 3
              have y44 : W.cell? ⟨b4, 4, none⟩ = some (.slice none 0 0) := H4.cell 4
              have v44 : W.frozen? ⟨b4, 4, none⟩ = false := H4.frozen 4
              have y45 : W.cell? ⟨b4, 5, none⟩ = some (.slice none 0 0) := H4.cell 5
              have v45 : W.frozen? ⟨b4, 5, none⟩ = false := H4.frozen 5
              have y46 : W.cell? ⟨b4, 6, none⟩ = some (.int .i64 0) := H4.cell 6
              have v46 : W.frozen? ⟨b4, 6, none⟩ = false := H4.frozen 6
              have l4 : b4 < W.heap.size := H4.lt
              replace H3 := Lib.hid H3
              replace H4 := Lib.hid H4
              replace HW2 := Lib.hid HW2
              refine AnyL.nxt 6 (by kernel_rfl) hC (fun o ho K hK => ?_)
              cases ho
              go_simp
              refine hK.out _ _ (Til.late (by rfl)) (fun hC hS => ?_)
              clear hK K
              refine AnyL.nxt 7 (by kernel_rfl) hC (fun o ho K hK => ?_)
              cases ho
              go_simp
              refine hK.out _ _ (Til.late (by rfl)) (fun hC hS => ?_)
              clear hK K
              refine AnyL.done (by kernel_rfl) ?_ _
              clear hC hS
              go_wp2_with fail
              go_meet
              exact ⟨b3, b4, rfl, rfl, (H3.out.seven (.int .i64 0) (.int .i64 0) (.string ⟨#[]⟩) (.slice none 0 0) (.slice none 0 0) (.slice none 0 0) (.int .i64 1)).seven_far hne (.int .i64 0) (.int .i64 0) (.string ⟨#[]⟩) (.slice none 0 0) (.slice none 0 0) (.slice none 0 0) (.int .i64 1), (H4.out.seven_far hne2 (.int .i64 0) (.int .i64 0) (.string ⟨#[]⟩) (.slice none 0 0) (.slice none 0 0) (.slice none 0 0) (.int .i64 1)).seven (.int .i64 0) (.int .i64 0) (.string ⟨#[]⟩) (.slice none 0 0) (.slice none 0 0) (.slice none 0 0) (.int .i64 1), Old.chg_ (Old.chg_ HW2.out (seven_stores _ b3 (.int .i64 0) (.int .i64 0) (.string ⟨#[]⟩) (.slice none 0 0) (.slice none 0 0) (.slice none 0 0) (.int .i64 1)) fun i hi => by omega) (seven_stores _ b4 (.int .i64 0) (.int .i64 0) (.string ⟨#[]⟩) (.slice none 0 0) (.slice none 0 0) (.slice none 0 0) (.int .i64 1)) fun i hi => by omega⟩
        ·
          cases ho
          go_simp
          refine hK.out _ _ (Til.mk (HB.out.old ((Old.refl _).alloc _))) (fun hC hS => ?_)
          clear hK K
          have H4 := Lib.hid (Blk.new_after HW.out (B := w3.heap.size) (by simp) #[.int .i64 0, .int .i64 0, .string ⟨#[]⟩, .slice none 0 0, .slice none 0 0, .slice none 0 0, .int .i64 0] 31)
          replace HB := Lib.hid (HB.out.alloc (.cells #[.int .i64 0, .int .i64 0, .string ⟨#[]⟩, .slice none 0 0, .slice none 0 0, .slice none 0 0, .int .i64 0] 31))
          replace HW := Lib.hid (HW.out.alloc (.cells #[.int .i64 0, .int .i64 0, .string ⟨#[]⟩, .slice none 0 0, .slice none 0 0, .slice none 0 0, .int .i64 0] 31))
          replace HW2 := Lib.hid (HW2.out.alloc (.cells #[.int .i64 0, .int .i64 0, .string ⟨#[]⟩, .slice none 0 0, .slice none 0 0, .slice none 0 0, .int .i64 0] 31))
          refine AnyL.each [3, 4] (by kernel_rfl) (by simp) hC (fun i hi o ho K hK => ?_)
          simp only [List.mem_cons, List.mem_nil_iff, or_false] at hi
          rcases hi with rfl | rfl
          ·
            cases ho
            have hh := up_else GA.out K4.out _ ok _ _ _ _ _ _ (C.out.old HW.out)
            have HH := Lib.hid hh
            clear hh
            go_simp
            refine HH.out.mono ?_
            rintro e w7 ⟨rfl, ho⟩
            have hsw7 := ho.size
            try simp at hsw7
            replace H4 := Lib.hid (H4.out.old ho)
            have y40 : w7.cell? ⟨w3.heap.size, 0, none⟩ = some (.int .i64 0) := H4.out.cell 0
            have v40 : w7.frozen? ⟨w3.heap.size, 0, none⟩ = false := H4.out.frozen 0
            have y41 : w7.cell? ⟨w3.heap.size, 1, none⟩ = some (.int .i64 0) := H4.out.cell 1
            have v41 : w7.frozen? ⟨w3.heap.size, 1, none⟩ = false := H4.out.frozen 1
            have y42 : w7.cell? ⟨w3.heap.size, 2, none⟩ = some (.string ⟨#[]⟩) := H4.out.cell 2
            have v42 : w7.frozen? ⟨w3.heap.size, 2, none⟩ = false := H4.out.frozen 2
            have y43 : w7.cell? ⟨w3.heap.size, 3, none⟩ = some (.slice none 0 0) := H4.out.cell 3
            have v43 : w7.frozen? ⟨w3.heap.size, 3, none⟩ = false := H4.out.frozen 3
            have y44 : w7.cell? ⟨w3.heap.size, 4, none⟩ = some (.slice none 0 0) := H4.out.cell 4
            have v44 : w7.frozen? ⟨w3.heap.size, 4, none⟩ = false := H4.out.frozen 4
            have y45 : w7.cell? ⟨w3.heap.size, 5, none⟩ = some (.slice none 0 0) := H4.out.cell 5
            have v45 : w7.frozen? ⟨w3.heap.size, 5, none⟩ = false := H4.out.frozen 5
            have y46 : w7.cell? ⟨w3.heap.size, 6, none⟩ = some (.int .i64 0) := H4.out.cell 6
            have v46 : w7.frozen? ⟨w3.heap.size, 6, none⟩ = false := H4.out.frozen 6
            have l4 : w3.heap.size < w7.heap.size := H4.out.lt
            replace HB := Lib.hid (HB.out.old ho)
            replace HW := Lib.hid (HW.out.trans ho)
            replace HW2 := Lib.hid (HW2.out.trans ho)
            clear ho HH
            refine hK.out _ _ (Til.late (by rfl)) (fun hC hS => ?_)
            clear hK K
            refine AnyL.each [4] (by kernel_rfl) (by simp) hC (fun i hi o ho K hK => ?_)
            simp only [List.mem_cons, List.mem_nil_iff, or_false] at hi
            subst hi
            ·
              cases ho
              go_simp
              refine hK.out _ _ (Til.late (by rfl)) (fun hC hS => ?_)
              clear hK K
              replace H4 := Lib.hid (H4.out.alloc (.cells #[.int .i64 0, .int .i64 0, .string ⟨#[]⟩, .slice none 0 0, .slice none 0 0, .slice none 0 0, .int .i64 0] 31))
              have H3 := Lib.hid (Blk.new_after HW.out (B := w7.heap.size) (by simp) #[.int .i64 0, .int .i64 0, .string ⟨#[]⟩, .slice none 0 0, .slice none 0 0, .slice none 0 0, .int .i64 0] 31)
              replace HB := Lib.hid (HB.out.alloc (.cells #[.int .i64 0, .int .i64 0, .string ⟨#[]⟩, .slice none 0 0, .slice none 0 0, .slice none 0 0, .int .i64 0] 31))
              replace HW := Lib.hid (HW.out.alloc (.cells #[.int .i64 0, .int .i64 0, .string ⟨#[]⟩, .slice none 0 0, .slice none 0 0, .slice none 0 0, .int .i64 0] 31))
              replace HW2 := Lib.hid (HW2.out.alloc (.cells #[.int .i64 0, .int .i64 0, .string ⟨#[]⟩, .slice none 0 0, .slice none 0 0, .slice none 0 0, .int .i64 0] 31))
              have hne : w7.heap.size ≠ w3.heap.size := by omega
              have hne2 : w3.heap.size ≠ w7.heap.size := by omega
              obtain ⟨b3, hb3⟩ : ∃ x, x = w7.heap.size := ⟨_, rfl⟩
              obtain ⟨b4, hb4⟩ : ∃ x, x = w3.heap.size := ⟨_, rfl⟩
              have H3b := H3.out
              have H4b := H4.out
              rw [← hb3] at H3b hne hne2 ⊢
              rw [← hb4] at H4b hne hne2 ⊢
              refine AnyL.opaque (F := fun W => Blk W b3 #[.int .i64 0, .int .i64 0, .string ⟨#[]⟩, .slice none 0 0, .slice none 0 0, .slice none 0 0, .int .i64 0] 31 ∧ Blk W b4 #[.int .i64 0, .int .i64 0, .string ⟨#[]⟩, .slice none 0 0, .slice none 0 0, .slice none 0 0, .int .i64 0] 31 ∧ Old w2 W) ⟨H3b, H4b, HW2.out⟩ ?_
              clear H3 H4 H3b H4b HW HB HW2 hS
              rintro W ⟨H3, H4, HW2⟩
              have hw3 : w2.heap.size ≤ b3 := by omega
              have hw4 : w2.heap.size ≤ b4 := by omega
              clear hb3 hb4
              have y30 : W.cell? ⟨b3, 0, none⟩ = some (.int .i64 0) := H3.cell 0
              have v30 : W.frozen? ⟨b3, 0, none⟩ = false := H3.frozen 0
              have y31 : W.cell? ⟨b3, 1, none⟩ = some (.int .i64 0) := H3.cell 1
              have v31 : W.frozen? ⟨b3, 1, none⟩ = false := H3.frozen 1
              have y32 : W.cell? ⟨b3, 2, none⟩ = some (.string ⟨#[]⟩) := H3.cell 2
              have v32 : W.frozen? ⟨b3, 2, none⟩ = false := H3.frozen 2
              have y33 : W.cell? ⟨b3, 3, none⟩ = some (.slice none 0 0) := H3.cell 3
              have v33 : W.frozen? ⟨b3, 3, none⟩ = false := H3.frozen 3
              have y34 : W.cell? ⟨b3, 4, none⟩ = some (.slice none 0 0) := H3.cell 4
              have v34 : W.frozen? ⟨b3, 4, none⟩ = false := H3.frozen 4
              have y35 : W.cell? ⟨b3, 5, none⟩ = some (.slice none 0 0) := H3.cell 5
              have v35 : W.frozen? ⟨b3, 5, none⟩ = false := H3.frozen 5
              have y36 : W.cell? ⟨b3, 6, none⟩ = some (.int .i64 0) := H3.cell 6
              have v36 : W.frozen? ⟨b3, 6, none⟩ = false := H3.frozen 6
              have l3 : b3 < W.heap.size := H3.lt
              have y40 : W.cell? ⟨b4, 0, none⟩ = some (.int .i64 0) := H4.cell 0
              have v40 : W.frozen? ⟨b4, 0, none⟩ = false := H4.frozen 0
              have y41 : W.cell? ⟨b4, 1, none⟩ = some (.int .i64 0) := H4.cell 1
              have v41 : W.frozen? ⟨b4, 1, none⟩ = false := H4.frozen 1
              have y42 : W.cell? ⟨b4, 2, none⟩ = some (.string ⟨#[]⟩) := H4.cell 2
              have v42 : W.frozen? ⟨b4, 2, none⟩ = false := H4.frozen 2
              have y43 : W.cell? ⟨b4, 3, none⟩ = some (.slice none 0 0) := H4.cell 3
              have v43 : W.frozen? ⟨b4, 3, none⟩ = false := H4.frozen 3
              have y44 : W.cell? ⟨b4, 4, none⟩ = some (.slice none 0 0) := H4.cell 4
              have v44 : W.frozen? ⟨b4, 4, none⟩ = false := H4.frozen 4
              have y45 : W.cell? ⟨b4, 5, none⟩ = some (.slice none 0 0) := H4.cell 5
              have v45 : W.frozen? ⟨b4, 5, none⟩ = false := H4.frozen 5
              have y46 : W.cell? ⟨b4, 6, none⟩ = some (.int .i64 0) := H4.cell 6
              have v46 : W.frozen? ⟨b4, 6, none⟩ = false := H4.frozen 6
              have l4 : b4 < W.heap.size := H4.lt
              replace H3 := Lib.hid H3
              replace H4 := Lib.hid H4
              replace HW2 := Lib.hid HW2
              refine AnyL.nxt 6 (by kernel_rfl) hC (fun o ho K hK => ?_)
              cases ho
              go_simp
              refine hK.out _ _ (Til.late (by rfl)) (fun hC hS => ?_)
              clear hK K
              refine AnyL.nxt 7 (by kernel_rfl) hC (fun o ho K hK => ?_)
              cases ho
              go_simp
              refine hK.out _ _ (Til.late (by rfl)) (fun hC hS => ?_)
              clear hK K
              refine AnyL.done (by kernel_rfl) ?_ _
              clear hC hS
              go_wp2_with fail
              go_meet
              exact ⟨b3, b4, rfl, rfl, (H3.out.seven (.int .i64 0) (.int .i64 0) (.string ⟨#[]⟩) (.slice none 0 0) (.slice none 0 0) (.slice none 0 0) (.int .i64 1)).seven_far hne (.int .i64 0) (.int .i64 0) (.string ⟨#[]⟩) (.slice none 0 0) (.slice none 0 0) (.slice none 0 0) (.int .i64 1), (H4.out.seven_far hne2 (.int .i64 0) (.int .i64 0) (.string ⟨#[]⟩) (.slice none 0 0) (.slice none 0 0) (.slice none 0 0) (.int .i64 1)).seven (.int .i64 0) (.int .i64 0) (.string ⟨#[]⟩) (.slice none 0 0) (.slice none 0 0) (.slice none 0 0) (.int .i64 1), Old.chg_ (Old.chg_ HW2.out (seven_stores _ b3 (.int .i64 0) (.int .i64 0) (.string ⟨#[]⟩) (.slice none 0 0) (.slice none 0 0) (.slice none 0 0) (.int .i64 1)) fun i hi => by omega) (seven_stores _ b4 (.int .i64 0) (.int .i64 0) (.string ⟨#[]⟩) (.slice none 0 0) (.slice none 0 0) (.slice none 0 0) (.int .i64 1)) fun i hi => by omega⟩
          ·
            cases ho
            go_simp
            refine hK.out _ _ (Til.mk (HB.out.old ((Old.refl _).alloc _))) (fun hC hS => ?_)
            clear hK K
            replace H4 := Lib.hid (H4.out.alloc (.cells #[.int .i64 0, .int .i64 0, .string ⟨#[]⟩, .slice none 0 0, .slice none 0 0, .slice none 0 0, .int .i64 0] 31))
            have H3 := Lib.hid (Blk.new_after HW.out (B := w3.heap.size + 1) (by simp) #[.int .i64 0, .int .i64 0, .string ⟨#[]⟩, .slice none 0 0, .slice none 0 0, .slice none 0 0, .int .i64 0] 31)
            replace HB := Lib.hid (HB.out.alloc (.cells #[.int .i64 0, .int .i64 0, .string ⟨#[]⟩, .slice none 0 0, .slice none 0 0, .slice none 0 0, .int .i64 0] 31))
            replace HW := Lib.hid (HW.out.alloc (.cells #[.int .i64 0, .int .i64 0, .string ⟨#[]⟩, .slice none 0 0, .slice none 0 0, .slice none 0 0, .int .i64 0] 31))
            replace HW2 := Lib.hid (HW2.out.alloc (.cells #[.int .i64 0, .int .i64 0, .string ⟨#[]⟩, .slice none 0 0, .slice none 0 0, .slice none 0 0, .int .i64 0] 31))
            refine AnyL.each [3] (by kernel_rfl) (by simp) hC (fun i hi o ho K hK => ?_)
            simp only [List.mem_cons, List.mem_nil_iff, or_false] at hi
            subst hi
            ·
              cases ho
              have hh := up_else GA.out K4.out _ ok _ _ _ _ _ _ (C.out.old HW.out)
              have HH := Lib.hid hh
              clear hh
              go_simp
              refine HH.out.mono ?_
              rintro e w8 ⟨rfl, ho⟩
              have hsw8 := ho.size
              try simp at hsw8
              replace H3 := Lib.hid (H3.out.old ho)
              have y30 : w8.cell? ⟨w3.heap.size + 1, 0, none⟩ = some (.int .i64 0) := H3.out.cell 0
              have v30 : w8.frozen? ⟨w3.heap.size + 1, 0, none⟩ = false := H3.out.frozen 0
              have y31 : w8.cell? ⟨w3.heap.size + 1, 1, none⟩ = some (.int .i64 0) := H3.out.cell 1
              have v31 : w8.frozen? ⟨w3.heap.size + 1, 1, none⟩ = false := H3.out.frozen 1
              have y32 : w8.cell? ⟨w3.heap.size + 1, 2, none⟩ = some (.string ⟨#[]⟩) := H3.out.cell 2
              have v32 : w8.frozen? ⟨w3.heap.size + 1, 2, none⟩ = false := H3.out.frozen 2
              have y33 : w8.cell? ⟨w3.heap.size + 1, 3, none⟩ = some (.slice none 0 0) := H3.out.cell 3
              have v33 : w8.frozen? ⟨w3.heap.size + 1, 3, none⟩ = false := H3.out.frozen 3
              have y34 : w8.cell? ⟨w3.heap.size + 1, 4, none⟩ = some (.slice none 0 0) := H3.out.cell 4
              have v34 : w8.frozen? ⟨w3.heap.size + 1, 4, none⟩ = false := H3.out.frozen 4
              have y35 : w8.cell? ⟨w3.heap.size + 1, 5, none⟩ = some (.slice none 0 0) := H3.out.cell 5
              have v35 : w8.frozen? ⟨w3.heap.size + 1, 5, none⟩ = false := H3.out.frozen 5
              have y36 : w8.cell? ⟨w3.heap.size + 1, 6, none⟩ = some (.int .i64 0) := H3.out.cell 6
              have v36 : w8.frozen? ⟨w3.heap.size + 1, 6, none⟩ = false := H3.out.frozen 6
              have l3 : w3.heap.size + 1 < w8.heap.size := H3.out.lt
              replace H4 := Lib.hid (H4.out.old ho)
              have y40 : w8.cell? ⟨w3.heap.size, 0, none⟩ = some (.int .i64 0) := H4.out.cell 0
              have v40 : w8.frozen? ⟨w3.heap.size, 0, none⟩ = false := H4.out.frozen 0
              have y41 : w8.cell? ⟨w3.heap.size, 1, none⟩ = some (.int .i64 0) := H4.out.cell 1
              have v41 : w8.frozen? ⟨w3.heap.size, 1, none⟩ = false := H4.out.frozen 1
              have y42 : w8.cell? ⟨w3.heap.size, 2, none⟩ = some (.string ⟨#[]⟩) := H4.out.cell 2
              have v42 : w8.frozen? ⟨w3.heap.size, 2, none⟩ = false := H4.out.frozen 2
              have y43 : w8.cell? ⟨w3.heap.size, 3, none⟩ = some (.slice none 0 0) := H4.out.cell 3
              have v43 : w8.frozen? ⟨w3.heap.size, 3, none⟩ = false := H4.out.frozen 3
              have y44 : w8.cell? ⟨w3.heap.size, 4, none⟩ = some (.slice none 0 0) := H4.out.cell 4
              have v44 : w8.frozen? ⟨w3.heap.size, 4, none⟩ = false := H4.out.frozen 4
              have y45 : w8.cell? ⟨w3.heap.size, 5, none⟩ = some (.slice none 0 0) := H4.out.cell 5
              have v45 : w8.frozen? ⟨w3.heap.size, 5, none⟩ = false := H4.out.frozen 5
              have y46 : w8.cell? ⟨w3.heap.size, 6, none⟩ = some (.int .i64 0) := H4.out.cell 6
              have v46 : w8.frozen? ⟨w3.heap.size, 6, none⟩ = false := H4.out.frozen 6
              have l4 : w3.heap.size < w8.heap.size := H4.out.lt
              replace HB := Lib.hid (HB.out.old ho)
              replace HW := Lib.hid (HW.out.trans ho)
              replace HW2 := Lib.hid (HW2.out.trans ho)
              clear ho HH
              refine hK.out _ _ (Til.late (by rfl)) (fun hC hS => ?_)
              clear hK K
              have hne : w3.heap.size + 1 ≠ w3.heap.size := by omega
              have hne2 : w3.heap.size ≠ w3.heap.size + 1 := by omega
              obtain ⟨b3, hb3⟩ : ∃ x, x = w3.heap.size + 1 := ⟨_, rfl⟩
              obtain ⟨b4, hb4⟩ : ∃ x, x = w3.heap.size := ⟨_, rfl⟩
              have H3b := H3.out
              have H4b := H4.out
              rw [← hb3] at H3b hne hne2 ⊢
              rw [← hb4] at H4b hne hne2 ⊢
              refine AnyL.opaque (F := fun W => Blk W b3 #[.int .i64 0, .int .i64 0, .string ⟨#[]⟩, .slice none 0 0, .slice none 0 0, .slice none 0 0, .int .i64 0] 31 ∧ Blk W b4 #[.int .i64 0, .int .i64 0, .string ⟨#[]⟩, .slice none 0 0, .slice none 0 0, .slice none 0 0, .int .i64 0] 31 ∧ Old w2 W) ⟨H3b, H4b, HW2.out⟩ ?_
              clear H3 H4 H3b H4b HW HB HW2 hS
              rintro W ⟨H3, H4, HW2⟩
              have hw3 : w2.heap.size ≤ b3 := by omega
              have hw4 : w2.heap.size ≤ b4 := by omega
              clear hb3 hb4
              have y30 : W.cell? ⟨b3, 0, none⟩ = some (.int .i64 0) := H3.cell 0
              have v30 : W.frozen? ⟨b3, 0, none⟩ = false := H3.frozen 0
              have y31 : W.cell? ⟨b3, 1, none⟩ = some (.int .i64 0) := H3.cell 1
              have v31 : W.frozen? ⟨b3, 1, none⟩ = false := H3.frozen 1
              have y32 : W.cell? ⟨b3, 2, none⟩ = some (.string ⟨#[]⟩) := H3.cell 2
              have v32 : W.frozen? ⟨b3, 2, none⟩ = false := H3.frozen 2
              have y33 : W.cell? ⟨b3, 3, none⟩ = some (.slice none 0 0) := H3.cell 3
              have v33 : W.frozen? ⟨b3, 3, none⟩ = false := H3.frozen 3
              have y34 : W.cell? ⟨b3, 4, none⟩ = some (.slice none 0 0) := H3.cell 4
              have v34 : W.frozen? ⟨b3, 4, none⟩ = false := H3.frozen 4
              have y35 : W.cell? ⟨b3, 5, none⟩ = some (.slice none 0 0) := H3.cell 5
              have v35 : W.frozen? ⟨b3, 5, none⟩ = false := H3.frozen 5
              have y36 : W.cell? ⟨b3, 6, none⟩ = some (.int .i64 0) := H3.cell 6
              have v36 : W.frozen? ⟨b3, 6, none⟩ = false := H3.frozen 6
              have l3 : b3 < W.heap.size := H3.lt
              have y40 : W.cell? ⟨b4, 0, none⟩ = some (.int .i64 0) := H4.cell 0
              have v40 : W.frozen? ⟨b4, 0, none⟩ = false := H4.frozen 0
              have y41 : W.cell? ⟨b4, 1, none⟩ = some (.int .i64 0) := H4.cell 1
              have v41 : W.frozen? ⟨b4, 1, none⟩ = false := H4.frozen 1
              have y42 : W.cell? ⟨b4, 2, none⟩ = some (.string ⟨#[]⟩) := H4.cell 2
              have v42 : W.frozen? ⟨b4, 2, none⟩ = false := H4.frozen 2
              have y43 : W.cell? ⟨b4, 3, none⟩ = some (.slice none 0 0) := H4.cell 3
              have v43 : W.frozen? ⟨b4, 3, none⟩ = false := H4.frozen 3
              have y44 : W.cell? ⟨b4, 4, none⟩ = some (.slice none 0 0) := H4.cell 4
              have v44 : W.frozen? ⟨b4, 4, none⟩ = false := H4.frozen 4
              have y45 : W.cell? ⟨b4, 5, none⟩ = some (.slice none 0 0) := H4.cell 5
              have v45 : W.frozen? ⟨b4, 5, none⟩ = false := H4.frozen 5
              have y46 : W.cell? ⟨b4, 6, none⟩ = some (.int .i64 0) := H4.cell 6
              have v46 : W.frozen? ⟨b4, 6, none⟩ = false := H4.frozen 6
              have l4 : b4 < W.heap.size := H4.lt
              replace H3 := Lib.hid H3
              replace H4 := Lib.hid H4
              replace HW2 := Lib.hid HW2
              refine AnyL.nxt 6 (by kernel_rfl) hC (fun o ho K hK => ?_)
              cases ho
              go_simp
              refine hK.out _ _ (Til.late (by rfl)) (fun hC hS => ?_)
              clear hK K
              refine AnyL.nxt 7 (by kernel_rfl) hC (fun o ho K hK => ?_)
              cases ho
              go_simp
              refine hK.out _ _ (Til.late (by rfl)) (fun hC hS => ?_)
              clear hK K
              refine AnyL.done (by kernel_rfl) ?_ _
              clear hC hS
              go_wp2_with fail
              go_meet
              exact ⟨b3, b4, rfl, rfl, (H3.out.seven (.int .i64 0) (.int .i64 0) (.string ⟨#[]⟩) (.slice none 0 0) (.slice none 0 0) (.slice none 0 0) (.int .i64 1)).seven_far hne (.int .i64 0) (.int .i64 0) (.string ⟨#[]⟩) (.slice none 0 0) (.slice none 0 0) (.slice none 0 0) (.int .i64 1), (H4.out.seven_far hne2 (.int .i64 0) (.int .i64 0) (.string ⟨#[]⟩) (.slice none 0 0) (.slice none 0 0) (.slice none 0 0) (.int .i64 1)).seven (.int .i64 0) (.int .i64 0) (.string ⟨#[]⟩) (.slice none 0 0) (.slice none 0 0) (.slice none 0 0) (.int .i64 1), Old.chg_ (Old.chg_ HW2.out (seven_stores _ b3 (.int .i64 0) (.int .i64 0) (.string ⟨#[]⟩) (.slice none 0 0) (.slice none 0 0) (.slice none 0 0) (.int .i64 1)) fun i hi => by omega) (seven_stores _ b4 (.int .i64 0) (.int .i64 0) (.string ⟨#[]⟩) (.slice none 0 0) (.slice none 0 0) (.slice none 0 0) (.int .i64 1)) fun i hi => by omega⟩
      ·
        cases ho
        go_simp
        refine hK.out _ _ (Til.mk (HB.out.old ((Old.refl _).alloc _))) (fun hC hS => ?_)
        clear hK K
        have H3 := Lib.hid (Blk.new_after HW.out (B := w2.heap.size) (by simp) #[.int .i64 0, .int .i64 0, .string ⟨#[]⟩, .slice none 0 0, .slice none 0 0, .slice none 0 0, .int .i64 0] 31)
        replace HB := Lib.hid (HB.out.alloc (.cells #[.int .i64 0, .int .i64 0, .string ⟨#[]⟩, .slice none 0 0, .slice none 0 0, .slice none 0 0, .int .i64 0] 31))
        replace HW := Lib.hid (HW.out.alloc (.cells #[.int .i64 0, .int .i64 0, .string ⟨#[]⟩, .slice none 0 0, .slice none 0 0, .slice none 0 0, .int .i64 0] 31))
        replace HW2 := Lib.hid (HW2.out.alloc (.cells #[.int .i64 0, .int .i64 0, .string ⟨#[]⟩, .slice none 0 0, .slice none 0 0, .slice none 0 0, .int .i64 0] 31))
        refine AnyL.each [1, 5] (by kernel_rfl) (by simp) hC (fun i hi o ho K hK => ?_)
        simp only [List.mem_cons, List.mem_nil_iff, or_false] at hi
        rcases hi with rfl | rfl
        ·
          cases ho
          have hh := down_else GA.out K4.out _ ok _ _ _ _ _ _ (C.out.old HW.out)
          have HH := Lib.hid hh
          clear hh
          go_simp
          refine HH.out.mono ?_
          rintro e w9 ⟨rfl, ho⟩
          have hsw9 := ho.size
          try simp at hsw9
          replace H3 := Lib.hid (H3.out.old ho)
          have y30 : w9.cell? ⟨w2.heap.size, 0, none⟩ = some (.int .i64 0) := H3.out.cell 0
          have v30 : w9.frozen? ⟨w2.heap.size, 0, none⟩ = false := H3.out.frozen 0
          have y31 : w9.cell? ⟨w2.heap.size, 1, none⟩ = some (.int .i64 0) := H3.out.cell 1
          have v31 : w9.frozen? ⟨w2.heap.size, 1, none⟩ = false := H3.out.frozen 1
          have y32 : w9.cell? ⟨w2.heap.size, 2, none⟩ = some (.string ⟨#[]⟩) := H3.out.cell 2
          have v32 : w9.frozen? ⟨w2.heap.size, 2, none⟩ = false := H3.out.frozen 2
          have y33 : w9.cell? ⟨w2.heap.size, 3, none⟩ = some (.slice none 0 0) := H3.out.cell 3
          have v33 : w9.frozen? ⟨w2.heap.size, 3, none⟩ = false := H3.out.frozen 3
          have y34 : w9.cell? ⟨w2.heap.size, 4, none⟩ = some (.slice none 0 0) := H3.out.cell 4
          have v34 : w9.frozen? ⟨w2.heap.size, 4, none⟩ = false := H3.out.frozen 4
          have y35 : w9.cell? ⟨w2.heap.size, 5, none⟩ = some (.slice none 0 0) := H3.out.cell 5
          have v35 : w9.frozen? ⟨w2.heap.size, 5, none⟩ = false := H3.out.frozen 5
          have y36 : w9.cell? ⟨w2.heap.size, 6, none⟩ = some (.int .i64 0) := H3.out.cell 6
          have v36 : w9.frozen? ⟨w2.heap.size, 6, none⟩ = false := H3.out.frozen 6
          have l3 : w2.heap.size < w9.heap.size := H3.out.lt
          replace HB := Lib.hid (HB.out.old ho)
          replace HW := Lib.hid (HW.out.trans ho)
          replace HW2 := Lib.hid (HW2.out.trans ho)
          clear ho HH
          refine hK.out _ _ (Til.mk HB.out) (fun hC hS => ?_)
          clear hK K
          refine AnyL.each [3, 5] (by kernel_rfl) (by simp) hC (fun i hi o ho K hK => ?_)
          simp only [List.mem_cons, List.mem_nil_iff, or_false] at hi
          rcases hi with rfl | rfl
          ·
            cases ho
            have hh := up_else GA.out K4.out _ ok _ _ _ _ _ _ (C.out.old HW.out)
            have HH := Lib.hid hh
            clear hh
            go_simp
            refine HH.out.mono ?_
            rintro e w10 ⟨rfl, ho⟩
            have hsw10 := ho.size
            try simp at hsw10
            replace H3 := Lib.hid (H3.out.old ho)
            have y30 : w10.cell? ⟨w2.heap.size, 0, none⟩ = some (.int .i64 0) := H3.out.cell 0
            have v30 : w10.frozen? ⟨w2.heap.size, 0, none⟩ = false := H3.out.frozen 0
            have y31 : w10.cell? ⟨w2.heap.size, 1, none⟩ = some (.int .i64 0) := H3.out.cell 1
            have v31 : w10.frozen? ⟨w2.heap.size, 1, none⟩ = false := H3.out.frozen 1
            have y32 : w10.cell? ⟨w2.heap.size, 2, none⟩ = some (.string ⟨#[]⟩) := H3.out.cell 2
            have v32 : w10.frozen? ⟨w2.heap.size, 2, none⟩ = false := H3.out.frozen 2
            have y33 : w10.cell? ⟨w2.heap.size, 3, none⟩ = some (.slice none 0 0) := H3.out.cell 3
            have v33 : w10.frozen? ⟨w2.heap.size, 3, none⟩ = false := H3.out.frozen 3
            have y34 : w10.cell? ⟨w2.heap.size, 4, none⟩ = some (.slice none 0 0) := H3.out.cell 4
            have v34 : w10.frozen? ⟨w2.heap.size, 4, none⟩ = false := H3.out.frozen 4
            have y35 : w10.cell? ⟨w2.heap.size, 5, none⟩ = some (.slice none 0 0) := H3.out.cell 5
            have v35 : w10.frozen? ⟨w2.heap.size, 5, none⟩ = false := H3.out.frozen 5
            have y36 : w10.cell? ⟨w2.heap.size, 6, none⟩ = some (.int .i64 0) := H3.out.cell 6
            have v36 : w10.frozen? ⟨w2.heap.size, 6, none⟩ = false := H3.out.frozen 6
            have l3 : w2.heap.size < w10.heap.size := H3.out.lt
            replace HB := Lib.hid (HB.out.old ho)
            replace HW := Lib.hid (HW.out.trans ho)
            replace HW2 := Lib.hid (HW2.out.trans ho)
            clear ho HH
            refine hK.out _ _ (Til.late (by rfl)) (fun hC hS => ?_)
            clear hK K
            refine AnyL.each [5] (by kernel_rfl) (by simp) hC (fun i hi o ho K hK => ?_)
            simp only [List.mem_cons, List.mem_nil_iff, or_false] at hi
            subst hi
            ·
              cases ho
              go_simp
              refine hK.out _ _ (Til.late (by rfl)) (fun hC hS => ?_)
              clear hK K
              replace H3 := Lib.hid (H3.out.alloc (.cells #[.int .i64 0, .int .i64 0, .string ⟨#[]⟩, .slice none 0 0, .slice none 0 0, .slice none 0 0, .int .i64 0] 31))
              have H4 := Lib.hid (Blk.new_after HW.out (B := w10.heap.size) (by simp) #[.int .i64 0, .int .i64 0, .string ⟨#[]⟩, .slice none 0 0, .slice none 0 0, .slice none 0 0, .int .i64 0] 31)
              replace HB := Lib.hid (HB.out.alloc (.cells #[.int .i64 0, .int .i64 0, .string ⟨#[]⟩, .slice none 0 0, .slice none 0 0, .slice none 0 0, .int .i64 0] 31))
              replace HW := Lib.hid (HW.out.alloc (.cells #[.int .i64 0, .int .i64 0, .string ⟨#[]⟩, .slice none 0 0, .slice none 0 0, .slice none 0 0, .int .i64 0] 31))
              replace HW2 := Lib.hid (HW2.out.alloc (.cells #[.int .i64 0, .int .i64 0, .string ⟨#[]⟩, .slice none 0 0, .slice none 0 0, .slice none 0 0, .int .i64 0] 31))
              have hne : w2.heap.size ≠ w10.heap.size := by omega
              have hne2 : w10.heap.size ≠ w2.heap.size := by omega
              obtain ⟨b3, hb3⟩ : ∃ x, x = w2.heap.size := ⟨_, rfl⟩
              obtain ⟨b4, hb4⟩ : ∃ x, x = w10.heap.size := ⟨_, rfl⟩
              have H3b := H3.out
              have H4b := H4.out
              rw [← hb4] at H4b hne hne2 ⊢
              rw [← hb3] at H3b hne hne2 ⊢
              refine AnyL.opaque (F := fun W => Blk W b3 #[.int .i64 0, .int .i64 0, .string ⟨#[]⟩, .slice none 0 0, .slice none 0 0, .slice none 0 0, .int .i64 0] 31 ∧ Blk W b4 #[.int .i64 0, .int .i64 0, .string ⟨#[]⟩, .slice none 0 0, .slice none 0 0, .slice none 0 0, .int .i64 0] 31 ∧ Old w2 W) ⟨H3b, H4b, HW2.out⟩ ?_
              clear H3 H4 H3b H4b HW HB HW2 hS
              rintro W ⟨H3, H4, HW2⟩
              have hw3 : w2.heap.size ≤ b3 := by omega
              have hw4 : w2.heap.size ≤ b4 := by omega
              clear hb3 hb4
              have y30 : W.cell? ⟨b3, 0, none⟩ = some (.int .i64 0) := H3.cell 0
              have v30 : W.frozen? ⟨b3, 0, none⟩ = false := H3.frozen 0
              have y31 : W.cell? ⟨b3, 1, none⟩ = some (.int .i64 0) := H3.cell 1
              have v31 : W.frozen? ⟨b3, 1, none⟩ = false := H3.frozen 1
              have y32 : W.cell? ⟨b3, 2, none⟩ = some (.string ⟨#[]⟩) := H3.cell 2
              have v32 : W.frozen? ⟨b3, 2, none⟩ = false := H3.frozen 2
              have y33 : W.cell? ⟨b3, 3, none⟩ = some (.slice none 0 0) := H3.cell 3
              have v33 : W.frozen? ⟨b3, 3, none⟩ = false := H3.frozen 3
              have y34 : W.cell? ⟨b3, 4, none⟩ = some (.slice none 0 0) := H3.cell 4
              have v34 : W.frozen? ⟨b3, 4, none⟩ = false := H3.frozen 4
              have y35 : W.cell? ⟨b3, 5, none⟩ = some (.slice none 0 0) := H3.cell 5
              have v35 : W.frozen? ⟨b3, 5, none⟩ = false := H3.frozen 5
              have y36 : W.cell? ⟨b3, 6, none⟩ = some (.int .i64 0) := H3.cell 6
              have v36 : W.frozen? ⟨b3, 6, none⟩ = false := H3.frozen 6
              have l3 : b3 < W.heap.size := H3.lt
              have y40 : W.cell? ⟨b4, 0, none⟩ = some (.int .i64 0) := H4.cell 0
              have v40 : W.frozen? ⟨b4, 0, none⟩ = false := H4.frozen 0
              have y41 : W.cell? ⟨b4, 1, none⟩ = some (.int .i64 0) := H4.cell 1
              have v41 : W.frozen? ⟨b4, 1, none⟩ = false := H4.frozen 1
              have y42 : W.cell? ⟨b4, 2, none⟩ = some (.string ⟨#[]⟩) := H4.cell 2
              have v42 : W.frozen? ⟨b4, 2, none⟩ = false := H4.frozen 2
              have y43 : W.cell? ⟨b4, 3, none⟩ = some (.slice none 0 0) := H4.cell 3
              have v43 : W.frozen? ⟨b4, 3, none⟩ = false := H4.frozen 3
              have y44 : W.cell? ⟨b4, 4, none⟩ = some (.slice none 0 0) := H4.cell 4
              have v44 : W.frozen? ⟨b4, 4, none⟩ = false := H4.frozen 4
              have y45 : W.cell? ⟨b4, 5, none⟩ = some (.slice none 0 0) := H4.cell 5
              have v45 : W.frozen? ⟨b4, 5, none⟩ = false := H4.frozen 5
              have y46 : W.cell? ⟨b4, 6, none⟩ = some (.int .i64 0) := H4.cell 6
              have v46 : W.frozen? ⟨b4, 6, none⟩ = false := H4.frozen 6
              have l4 : b4 < W.heap.size := H4.lt
              replace H3 := Lib.hid H3
              replace H4 := Lib.hid H4
              replace HW2 := Lib.hid HW2
              refine AnyL.nxt 6 (by kernel_rfl) hC (fun o ho K hK => ?_)
              cases ho
              go_simp
              refine hK.out _ _ (Til.late (by rfl)) (fun hC hS => ?_)
              clear hK K
              refine AnyL.nxt 7 (by kernel_rfl) hC (fun o ho K hK => ?_)
              cases ho
              go_simp
              refine hK.out _ _ (Til.late (by rfl)) (fun hC hS => ?_)
              clear hK K
              refine AnyL.done (by kernel_rfl) ?_ _
              clear hC hS
              go_wp2_with fail
              go_meet
              exact ⟨b3, b4, rfl, rfl, (H3.out.seven (.int .i64 0) (.int .i64 0) (.string ⟨#[]⟩) (.slice none 0 0) (.slice none 0 0) (.slice none 0 0) (.int .i64 1)).seven_far hne (.int .i64 0) (.int .i64 0) (.string ⟨#[]⟩) (.slice none 0 0) (.slice none 0 0) (.slice none 0 0) (.int .i64 1), (H4.out.seven_far hne2 (.int .i64 0) (.int .i64 0) (.string ⟨#[]⟩) (.slice none 0 0) (.slice none 0 0) (.slice none 0 0) (.int .i64 1)).seven (.int .i64 0) (.int .i64 0) (.string ⟨#[]⟩) (.slice none 0 0) (.slice none 0 0) (.slice none 0 0) (.int .i64 1), Old.chg_ (Old.chg_ HW2.out (seven_stores _ b3 (.int .i64 0) (.int .i64 0) (.string ⟨#[]⟩) (.slice none 0 0) (.slice none 0 0) (.slice none 0 0) (.int .i64 1)) fun i hi => by omega) (seven_stores _ b4 (.int .i64 0) (.int .i64 0) (.string ⟨#[]⟩) (.slice none 0 0) (.slice none 0 0) (.slice none 0 0) (.int .i64 1)) fun i hi => by omega⟩
          ·
            cases ho
            go_simp
            refine hK.out _ _ (Til.mk (HB.out.old ((Old.refl _).alloc _))) (fun hC hS => ?_)
            clear hK K
            replace H3 := Lib.hid (H3.out.alloc (.cells #[.int .i64 0, .int .i64 0, .string ⟨#[]⟩, .slice none 0 0, .slice none 0 0, .slice none 0 0, .int .i64 0] 31))
            have H4 := Lib.hid (Blk.new_after HW.out (B := w9.heap.size) (by simp) #[.int .i64 0, .int .i64 0, .string ⟨#[]⟩, .slice none 0 0, .slice none 0 0, .slice none 0 0, .int .i64 0] 31)
            replace HB := Lib.hid (HB.out.alloc (.cells #[.int .i64 0, .int .i64 0, .string ⟨#[]⟩, .slice none 0 0, .slice none 0 0, .slice none 0 0, .int .i64 0] 31))
            replace HW := Lib.hid (HW.out.alloc (.cells #[.int .i64 0, .int .i64 0, .string ⟨#[]⟩, .slice none 0 0, .slice none 0 0, .slice none 0 0, .int .i64 0] 31))
            replace HW2 := Lib.hid (HW2.out.alloc (.cells #[.int .i64 0, .int .i64 0, .string ⟨#[]⟩, .slice none 0 0, .slice none 0 0, .slice none 0 0, .int .i64 0] 31))
            refine AnyL.each [3] (by kernel_rfl) (by simp) hC (fun i hi o ho K hK => ?_)
            simp only [List.mem_cons, List.mem_nil_iff, or_false] at hi
            subst hi
            ·
              cases ho
              have hh := up_else GA.out K4.out _ ok _ _ _ _ _ _ (C.out.old HW.out)
              have HH := Lib.hid hh
              clear hh
              go_simp
              refine HH.out.mono ?_
              rintro e w11 ⟨rfl, ho⟩
              have hsw11 := ho.size
              try simp at hsw11
              replace H3 := Lib.hid (H3.out.old ho)
              have y30 : w11.cell? ⟨w2.heap.size, 0, none⟩ = some (.int .i64 0) := H3.out.cell 0
              have v30 : w11.frozen? ⟨w2.heap.size, 0, none⟩ = false := H3.out.frozen 0
              have y31 : w11.cell? ⟨w2.heap.size, 1, none⟩ = some (.int .i64 0) := H3.out.cell 1
              have v31 : w11.frozen? ⟨w2.heap.size, 1, none⟩ = false := H3.out.frozen 1
              have y32 : w11.cell? ⟨w2.heap.size, 2, none⟩ = some (.string ⟨#[]⟩) := H3.out.cell 2
              have v32 : w11.frozen? ⟨w2.heap.size, 2, none⟩ = false := H3.out.frozen 2
              have y33 : w11.cell? ⟨w2.heap.size, 3, none⟩ = some (.slice none 0 0) := H3.out.cell 3
              have v33 : w11.frozen? ⟨w2.heap.size, 3, none⟩ = false := H3.out.frozen 3
              have y34 : w11.cell? ⟨w2.heap.size, 4, none⟩ = some (.slice none 0 0) := H3.out.cell 4
              have v34 : w11.frozen? ⟨w2.heap.size, 4, none⟩ = false := H3.out.frozen 4
              have y35 : w11.cell? ⟨w2.heap.size, 5, none⟩ = some (.slice none 0 0) := H3.out.cell 5
              have v35 : w11.frozen? ⟨w2.heap.size, 5, none⟩ = false := H3.out.frozen 5
              have y36 : w11.cell? ⟨w2.heap.size, 6, none⟩ = some (.int .i64 0) := H3.out.cell 6
              have v36 : w11.frozen? ⟨w2.heap.size, 6, none⟩ = false := H3.out.frozen 6
              have l3 : w2.heap.size < w11.heap.size := H3.out.lt
              replace H4 := Lib.hid (H4.out.old ho)
              have y40 : w11.cell? ⟨w9.heap.size, 0, none⟩ = some (.int .i64 0) := H4.out.cell 0
              have v40 : w11.frozen? ⟨w9.heap.size, 0, none⟩ = false := H4.out.frozen 0
              have y41 : w11.cell? ⟨w9.heap.size, 1, none⟩ = some (.int .i64 0) := H4.out.cell 1
              have v41 : w11.frozen? ⟨w9.heap.size, 1, none⟩ = false := H4.out.frozen 1
              have y42 : w11.cell? ⟨w9.heap.size, 2, none⟩ = some (.string ⟨#[]⟩) := H4.out.cell 2
              have v42 : w11.frozen? ⟨w9.heap.size, 2, none⟩ = false := H4.out.frozen 2
              have y43 : w11.cell? ⟨w9.heap.size, 3, none⟩ = some (.slice none 0 0) := H4.out.cell 3
              have v43 : w11.frozen? ⟨w9.heap.size, 3, none⟩ = false := H4.out.frozen 3
              have y44 : w11.cell? ⟨w9.heap.size, 4, none⟩ = some (.slice none 0 0) := H4.out.cell 4
              have v44 : w11.frozen? ⟨w9.heap.size, 4, none⟩ = false := H4.out.frozen 4
              have y45 : w11.cell? ⟨w9.heap.size, 5, none⟩ = some (.slice none 0 0) := H4.out.cell 5
              have v45 : w11.frozen? ⟨w9.heap.size, 5, none⟩ = false := H4.out.frozen 5
              have y46 : w11.cell? ⟨w9.heap.size, 6, none⟩ = some (.int .i64 0) := H4.out.cell 6
              have v46 : w11.frozen? ⟨w9.heap.size, 6, none⟩ = false := H4.out.frozen 6
              have l4 : w9.heap.size < w11.heap.size := H4.out.lt
              replace HB := Lib.hid (HB.out.old ho)
              replace HW := Lib.hid (HW.out.trans ho)
              replace HW2 := Lib.hid (HW2.out.trans ho)
              clear ho HH
              refine hK.out _ _ (Til.late (by rfl)) (fun hC hS => ?_)
              clear hK K
              have hne : w2.heap.size ≠ w9.heap.size := by omega
              have hne2 : w9.heap.size ≠ w2.heap.size := by omega
              obtain ⟨b3, hb3⟩ : ∃ x, x = w2.heap.size := ⟨_, rfl⟩
              obtain ⟨b4, hb4⟩ : ∃ x, x = w9.heap.size := ⟨_, rfl⟩
              have H3b := H3.out
              have H4b := H4.out
              rw [← hb3] at H3b hne hne2 ⊢
              rw [← hb4] at H4b hne hne2 ⊢
              refine AnyL.opaque (F := fun W => Blk W b3 #[.int .i64 0, .int .i64 0, .string ⟨#[]⟩, .slice none 0 0, .slice none 0 0, .slice none 0 0, .int .i64 0] 31 ∧ Blk W b4 #[.int .i64 0, .int .i64 0, .string ⟨#[]⟩, .slice none 0 0, .slice none 0 0, .slice none 0 0, .int .i64 0] 31 ∧ Old w2 W) ⟨H3b, H4b, HW2.out⟩ ?_
              clear H3 H4 H3b H4b HW HB HW2 hS
              rintro W ⟨H3, H4, HW2⟩
              have hw3 : w2.heap.size ≤ b3 := by omega
              have hw4 : w2.heap.size ≤ b4 := by omega
              clear hb3 hb4
              have y30 : W.cell? ⟨b3, 0, none⟩ = some (.int .i64 0) := H3.cell 0
              have v30 : W.frozen? ⟨b3, 0, none⟩ = false := H3.frozen 0
              have y31 : W.cell? ⟨b3, 1, none⟩ = some (.int .i64 0) := H3.cell 1
              have v31 : W.frozen? ⟨b3, 1, none⟩ = false := H3.frozen 1
              have y32 : W.cell? ⟨b3, 2, none⟩ = some (.string ⟨#[]⟩) := H3.cell 2
              have v32 : W.frozen? ⟨b3, 2, none⟩ = false := H3.frozen 2
              have y33 : W.cell? ⟨b3, 3, none⟩ = some (.slice none 0 0) := H3.cell 3
              have v33 : W.frozen? ⟨b3, 3, none⟩ = false := H3.frozen 3
              have y34 : W.cell? ⟨b3, 4, none⟩ = some (.slice none 0 0) := H3.cell 4
              have v34 : W.frozen? ⟨b3, 4, none⟩ = false := H3.frozen 4
              have y35 : W.cell? ⟨b3, 5, none⟩ = some (.slice none 0 0) := H3.cell 5
              have v35 : W.frozen? ⟨b3, 5, none⟩ = false := H3.frozen 5
              have y36 : W.cell? ⟨b3, 6, none⟩ = some (.int .i64 0) := H3.cell 6
              have v36 : W.frozen? ⟨b3, 6, none⟩ = false := H3.frozen 6
              have l3 : b3 < W.heap.size := H3.lt
              have y40 : W.cell? ⟨b4, 0, none⟩ = some (.int .i64 0) := H4.cell 0
              have v40 : W.frozen? ⟨b4, 0, none⟩ = false := H4.frozen 0
              have y41 : W.cell? ⟨b4, 1, none⟩ = some (.int .i64 0) := H4.cell 1
              have v41 : W.frozen? ⟨b4, 1, none⟩ = false := H4.frozen 1
              have y42 : W.cell? ⟨b4, 2, none⟩ = some (.string ⟨#[]⟩) := H4.cell 2
              have v42 : W.frozen? ⟨b4, 2, none⟩ = false := H4.frozen 2
              have y43 : W.cell? ⟨b4, 3, none⟩ = some (.slice none 0 0) := H4.cell 3
              have v43 : W.frozen? ⟨b4, 3, none⟩ = false := H4.frozen 3
              have y44 : W.cell? ⟨b4, 4, none⟩ = some (.slice none 0 0) := H4.cell 4
              have v44 : W.frozen? ⟨b4, 4, none⟩ = false := H4.frozen 4
              have y45 : W.cell? ⟨b4, 5, none⟩ = some (.slice none 0 0) := H4.cell 5
              have v45 : W.frozen? ⟨b4, 5, none⟩ = false := H4.frozen 5
              have y46 : W.cell? ⟨b4, 6, none⟩ = some (.int .i64 0) := H4.cell 6
              have v46 : W.frozen? ⟨b4, 6, none⟩ = false := H4.frozen 6
              have l4 : b4 < W.heap.size := H4.lt
              replace H3 := Lib.hid H3
              replace H4 := Lib.hid H4
              replace HW2 := Lib.hid HW2
              refine AnyL.nxt 6 (by kernel_rfl) hC (fun o ho K hK => ?_)
              cases ho
              go_simp
              refine hK.out _ _ (Til.late (by rfl)) (fun hC hS => ?_)
              clear hK K
              refine AnyL.nxt 7 (by kernel_rfl) hC (fun o ho K hK => ?_)
              cases ho
              go_simp
              refine hK.out _ _ (Til.late (by rfl)) (fun hC hS => ?_)
              clear hK K
              refine AnyL.done (by kernel_rfl) ?_ _
              clear hC hS
              go_wp2_with fail
              go_meet
              exact ⟨b3, b4, rfl, rfl, (H3.out.seven (.int .i64 0) (.int .i64 0) (.string ⟨#[]⟩) (.slice none 0 0) (.slice none 0 0) (.slice none 0 0) (.int .i64 1)).seven_far hne (.int .i64 0) (.int .i64 0) (.string ⟨#[]⟩) (.slice none 0 0) (.slice none 0 0) (.slice none 0 0) (.int .i64 1), (H4.out.seven_far hne2 (.int .i64 0) (.int .i64 0) (.string ⟨#[]⟩) (.slice none 0 0) (.slice none 0 0) (.slice none 0 0) (.int .i64 1)).seven (.int .i64 0) (.int .i64 0) (.string ⟨#[]⟩) (.slice none 0 0) (.slice none 0 0) (.slice none 0 0) (.int .i64 1), Old.chg_ (Old.chg_ HW2.out (seven_stores _ b3 (.int .i64 0) (.int .i64 0) (.string ⟨#[]⟩) (.slice none 0 0) (.slice none 0 0) (.slice none 0 0) (.int .i64 1)) fun i hi => by omega) (seven_stores _ b4 (.int .i64 0) (.int .i64 0) (.string ⟨#[]⟩) (.slice none 0 0) (.slice none 0 0) (.slice none 0 0) (.int .i64 1)) fun i hi => by omega⟩
        ·
          cases ho
          go_simp
          refine hK.out _ _ (Til.mk (HB.out.old ((Old.refl _).alloc _))) (fun hC hS => ?_)
          clear hK K
          replace H3 := Lib.hid (H3.out.alloc (.cells #[.int .i64 0, .int .i64 0, .string ⟨#[]⟩, .slice none 0 0, .slice none 0 0, .slice none 0 0, .int .i64 0] 31))
          have H4 := Lib.hid (Blk.new_after HW.out (B := w2.heap.size + 1) (by simp) #[.int .i64 0, .int .i64 0, .string ⟨#[]⟩, .slice none 0 0, .slice none 0 0, .slice none 0 0, .int .i64 0] 31)
          replace HB := Lib.hid (HB.out.alloc (.cells #[.int .i64 0, .int .i64 0, .string ⟨#[]⟩, .slice none 0 0, .slice none 0 0, .slice none 0 0, .int .i64 0] 31))
          replace HW := Lib.hid (HW.out.alloc (.cells #[.int .i64 0, .int .i64 0, .string ⟨#[]⟩, .slice none 0 0, .slice none 0 0, .slice none 0 0, .int .i64 0] 31))
          replace HW2 := Lib.hid (HW2.out.alloc (.cells #[.int .i64 0, .int .i64 0, .string ⟨#[]⟩, .slice none 0 0, .slice none 0 0, .slice none 0 0, .int .i64 0] 31))
          refine AnyL.each [1] (by kernel_rfl) (by simp) hC (fun i hi o ho K hK => ?_)
          simp only [List.mem_cons, List.mem_nil_iff, or_false] at hi
          subst hi
          ·
            cases ho
            have hh := down_else GA.out K4.out _ ok _ _ _ _ _ _ (C.out.old HW.out)
            have HH := Lib.hid hh
            clear hh
            go_simp
            refine HH.out.mono ?_
            rintro e w12 ⟨rfl, ho⟩
            have hsw12 := ho.size
            try simp at hsw12
            replace H3 := Lib.hid (H3.out.old ho)
            have y30 : w12.cell? ⟨w2.heap.size, 0, none⟩ = some (.int .i64 0) := H3.out.cell 0
            have v30 : w12.frozen? ⟨w2.heap.size, 0, none⟩ = false := H3.out.frozen 0
            have y31 : w12.cell? ⟨w2.heap.size, 1, none⟩ = some (.int .i64 0) := H3.out.cell 1
            have v31 : w12.frozen? ⟨w2.heap.size, 1, none⟩ = false := H3.out.frozen 1
            have y32 : w12.cell? ⟨w2.heap.size, 2, none⟩ = some (.string ⟨#[]⟩) := H3.out.cell 2
            have v32 : w12.frozen? ⟨w2.heap.size, 2, none⟩ = false := H3.out.frozen 2
            have y33 : w12.cell? ⟨w2.heap.size, 3, none⟩ = some (.slice none 0 0) := H3.out.cell 3
            have v33 : w12.frozen? ⟨w2.heap.size, 3, none⟩ = false := H3.out.frozen 3
            have y34 : w12.cell? ⟨w2.heap.size, 4, none⟩ = some (.slice none 0 0) := H3.out.cell 4
            have v34 : w12.frozen? ⟨w2.heap.size, 4, none⟩ = false := H3.out.frozen 4
            have y35 : w12.cell? ⟨w2.heap.size, 5, none⟩ = some (.slice none 0 0) := H3.out.cell 5
            have v35 : w12.frozen? ⟨w2.heap.size, 5, none⟩ = false := H3.out.frozen 5
            have y36 : w12.cell? ⟨w2.heap.size, 6, none⟩ = some (.int .i64 0) := H3.out.cell 6
            have v36 : w12.frozen? ⟨w2.heap.size, 6, none⟩ = false := H3.out.frozen 6
            have l3 : w2.heap.size < w12.heap.size := H3.out.lt
            replace H4 := Lib.hid (H4.out.old ho)
            have y40 : w12.cell? ⟨w2.heap.size + 1, 0, none⟩ = some (.int .i64 0) := H4.out.cell 0
            have v40 : w12.frozen? ⟨w2.heap.size + 1, 0, none⟩ = false := H4.out.frozen 0
            have y41 : w12.cell? ⟨w2.heap.size + 1, 1, none⟩ = some (.int .i64 0) := H4.out.cell 1
            have v41 : w12.frozen? ⟨w2.heap.size + 1, 1, none⟩ = false := H4.out.frozen 1
            have y42 : w12.cell? ⟨w2.heap.size + 1, 2, none⟩ = some (.string ⟨#[]⟩) := H4.out.cell 2
            have v42 : w12.frozen? ⟨w2.heap.size + 1, 2, none⟩ = false := H4.out.frozen 2
            have y43 : w12.cell? ⟨w2.heap.size + 1, 3, none⟩ = some (.slice none 0 0) := H4.out.cell 3
            have v43 : w12.frozen? ⟨w2.heap.size + 1, 3, none⟩ = false := H4.out.frozen 3
            have y44 : w12.cell? ⟨w2.heap.size + 1, 4, none⟩ = some (.slice none 0 0) := H4.out.cell 4
            have v44 : w12.frozen? ⟨w2.heap.size + 1, 4, none⟩ = false := H4.out.frozen 4
            have y45 : w12.cell? ⟨w2.heap.size + 1, 5, none⟩ = some (.slice none 0 0) := H4.out.cell 5
            have v45 : w12.frozen? ⟨w2.heap.size + 1, 5, none⟩ = false := H4.out.frozen 5
            have y46 : w12.cell? ⟨w2.heap.size + 1, 6, none⟩ = some (.int .i64 0) := H4.out.cell 6
            have v46 : w12.frozen? ⟨w2.heap.size + 1, 6, none⟩ = false := H4.out.frozen 6
            have l4 : w2.heap.size + 1 < w12.heap.size := H4.out.lt
            replace HB := Lib.hid (HB.out.old ho)
            replace HW := Lib.hid (HW.out.trans ho)
            replace HW2 := Lib.hid (HW2.out.trans ho)
            clear ho HH
            refine hK.out _ _ (Til.mk HB.out) (fun hC hS => ?_)
            clear hK K
            refine AnyL.each [3] (by kernel_rfl) (by simp) hC (fun i hi o ho K hK => ?_)
            simp only [List.mem_cons, List.mem_nil_iff, or_false] at hi
            subst hi
            ·
              cases ho
              have hh := up_else GA.out K4.out _ ok _ _ _ _ _ _ (C.out.old HW.out)
              have HH := Lib.hid hh
              clear hh
              go_simp
              refine HH.out.mono ?_
              rintro e w13 ⟨rfl, ho⟩
              have hsw13 := ho.size
              try simp at hsw13
              replace H3 := Lib.hid (H3.out.old ho)
              have y30 : w13.cell? ⟨w2.heap.size, 0, none⟩ = some (.int .i64 0) := H3.out.cell 0
              have v30 : w13.frozen? ⟨w2.heap.size, 0, none⟩ = false := H3.out.frozen 0
              have y31 : w13.cell? ⟨w2.heap.size, 1, none⟩ = some (.int .i64 0) := H3.out.cell 1
              have v31 : w13.frozen? ⟨w2.heap.size, 1, none⟩ = false := H3.out.frozen 1
              have y32 : w13.cell? ⟨w2.heap.size, 2, none⟩ = some (.string ⟨#[]⟩) := H3.out.cell 2
              have v32 : w13.frozen? ⟨w2.heap.size, 2, none⟩ = false := H3.out.frozen 2
              have y33 : w13.cell? ⟨w2.heap.size, 3, none⟩ = some (.slice none 0 0) := H3.out.cell 3
              have v33 : w13.frozen? ⟨w2.heap.size, 3, none⟩ = false := H3.out.frozen 3
              have y34 : w13.cell? ⟨w2.heap.size, 4, none⟩ = some (.slice none 0 0) := H3.out.cell 4
              have v34 : w13.frozen? ⟨w2.heap.size, 4, none⟩ = false := H3.out.frozen 4
              have y35 : w13.cell? ⟨w2.heap.size, 5, none⟩ = some (.slice none 0 0) := H3.out.cell 5
              have v35 : w13.frozen? ⟨w2.heap.size, 5, none⟩ = false := H3.out.frozen 5
              have y36 : w13.cell? ⟨w2.heap.size, 6, none⟩ = some (.int .i64 0) := H3.out.cell 6
              have v36 : w13.frozen? ⟨w2.heap.size, 6, none⟩ = false := H3.out.frozen 6
              have l3 : w2.heap.size < w13.heap.size := H3.out.lt
              replace H4 := Lib.hid (H4.out.old ho)
              have y40 : w13.cell? ⟨w2.heap.size + 1, 0, none⟩ = some (.int .i64 0) := H4.out.cell 0
              have v40 : w13.frozen? ⟨w2.heap.size + 1, 0, none⟩ = false := H4.out.frozen 0
              have y41 : w13.cell? ⟨w2.heap.size + 1, 1, none⟩ = some (.int .i64 0) := H4.out.cell 1
              have v41 : w13.frozen? ⟨w2.heap.size + 1, 1, none⟩ = false := H4.out.frozen 1
              have y42 : w13.cell? ⟨w2.heap.size + 1, 2, none⟩ = some (.string ⟨#[]⟩) := H4.out.cell 2
              have v42 : w13.frozen? ⟨w2.heap.size + 1, 2, none⟩ = false := H4.out.frozen 2
              have y43 : w13.cell? ⟨w2.heap.size + 1, 3, none⟩ = some (.slice none 0 0) := H4.out.cell 3
              have v43 : w13.frozen? ⟨w2.heap.size + 1, 3, none⟩ = false := H4.out.frozen 3
              have y44 : w13.cell? ⟨w2.heap.size + 1, 4, none⟩ = some (.slice none 0 0) := H4.out.cell 4
              have v44 : w13.frozen? ⟨w2.heap.size + 1, 4, none⟩ = false := H4.out.frozen 4
              have y45 : w13.cell? ⟨w2.heap.size + 1, 5, none⟩ = some (.slice none 0 0) := H4.out.cell 5
              have v45 : w13.frozen? ⟨w2.heap.size + 1, 5, none⟩ = false := H4.out.frozen 5
              have y46 : w13.cell? ⟨w2.heap.size + 1, 6, none⟩ = some (.int .i64 0) := H4.out.cell 6
              have v46 : w13.frozen? ⟨w2.heap.size + 1, 6, none⟩ = false := H4.out.frozen 6
              have l4 : w2.heap.size + 1 < w13.heap.size := H4.out.lt
              replace HB := Lib.hid (HB.out.old ho)
              replace HW := Lib.hid (HW.out.trans ho)
              replace HW2 := Lib.hid (HW2.out.trans ho)
              clear ho HH
              refine hK.out _ _ (Til.late (by rfl)) (fun hC hS => ?_)
              clear hK K
              have hne : w2.heap.size ≠ w2.heap.size + 1 := by omega
              have hne2 : w2.heap.size + 1 ≠ w2.heap.size := by omega
              obtain ⟨b3, hb3⟩ : ∃ x, x = w2.heap.size := ⟨_, rfl⟩
              obtain ⟨b4, hb4⟩ : ∃ x, x = w2.heap.size + 1 := ⟨_, rfl⟩
              have H3b := H3.out
              have H4b := H4.out
              rw [← hb4] at H4b hne hne2 ⊢
              rw [← hb3] at H3b hne hne2 ⊢
              refine AnyL.opaque (F := fun W => Blk W b3 #[.int .i64 0, .int .i64 0, .string ⟨#[]⟩, .slice none 0 0, .slice none 0 0, .slice none 0 0, .int .i64 0] 31 ∧ Blk W b4 #[.int .i64 0, .int .i64 0, .string ⟨#[]⟩, .slice none 0 0, .slice none 0 0, .slice none 0 0, .int .i64 0] 31 ∧ Old w2 W) ⟨H3b, H4b, HW2.out⟩ ?_
              clear H3 H4 H3b H4b HW HB HW2 hS
              rintro W ⟨H3, H4, HW2⟩
              have hw3 : w2.heap.size ≤ b3 := by omega
              have hw4 : w2.heap.size ≤ b4 := by omega
              clear hb3 hb4
              have y30 : W.cell? ⟨b3, 0, none⟩ = some (.int .i64 0) := H3.cell 0
              have v30 : W.frozen? ⟨b3, 0, none⟩ = false := H3.frozen 0
              have y31 : W.cell? ⟨b3, 1, none⟩ = some (.int .i64 0) := H3.cell 1
              have v31 : W.frozen? ⟨b3, 1, none⟩ = false := H3.frozen 1
              have y32 : W.cell? ⟨b3, 2, none⟩ = some (.string ⟨#[]⟩) := H3.cell 2
              have v32 : W.frozen? ⟨b3, 2, none⟩ = false := H3.frozen 2
              have y33 : W.cell? ⟨b3, 3, none⟩ = some (.slice none 0 0) := H3.cell 3
              have v33 : W.frozen? ⟨b3, 3, none⟩ = false := H3.frozen 3
              have y34 : W.cell? ⟨b3, 4, none⟩ = some (.slice none 0 0) := H3.cell 4
              have v34 : W.frozen? ⟨b3, 4, none⟩ = false := H3.frozen 4
              have y35 : W.cell? ⟨b3, 5, none⟩ = some (.slice none 0 0) := H3.cell 5
              have v35 : W.frozen? ⟨b3, 5, none⟩ = false := H3.frozen 5
              have y36 : W.cell? ⟨b3, 6, none⟩ = some (.int .i64 0) := H3.cell 6
              have v36 : W.frozen? ⟨b3, 6, none⟩ = false := H3.frozen 6
              have l3 : b3 < W.heap.size := H3.lt
              have y40 : W.cell? ⟨b4, 0, none⟩ = some (.int .i64 0) := H4.cell 0
              have v40 : W.frozen? ⟨b4, 0, none⟩ = false := H4.frozen 0
              have y41 : W.cell? ⟨b4, 1, none⟩ = some (.int .i64 0) := H4.cell 1
              have v41 : W.frozen? ⟨b4, 1, none⟩ = false := H4.frozen 1
              have y42 : W.cell? ⟨b4, 2, none⟩ = some (.string ⟨#[]⟩) := H4.cell 2
              have v42 : W.frozen? ⟨b4, 2, none⟩ = false := H4.frozen 2
              have y43 : W.cell? ⟨b4, 3, none⟩ = some (.slice none 0 0) := H4.cell 3
              have v43 : W.frozen? ⟨b4, 3, none⟩ = false := H4.frozen 3
              have y44 : W.cell? ⟨b4, 4, none⟩ = some (.slice none 0 0) := H4.cell 4
              have v44 : W.frozen? ⟨b4, 4, none⟩ = false := H4.frozen 4
              have y45 : W.cell? ⟨b4, 5, none⟩ = some (.slice none 0 0) := H4.cell 5
              have v45 : W.frozen? ⟨b4, 5, none⟩ = false := H4.frozen 5
              have y46 : W.cell? ⟨b4, 6, none⟩ = some (.int .i64 0) := H4.cell 6
              have v46 : W.frozen? ⟨b4, 6, none⟩ = false := H4.frozen 6
              have l4 : b4 < W.heap.size := H4.lt
              replace H3 := Lib.hid H3
              replace H4 := Lib.hid H4
              replace HW2 := Lib.hid HW2
              refine AnyL.nxt 6 (by kernel_rfl) hC (fun o ho K hK => ?_)
              cases ho
              go_simp
              refine hK.out _ _ (Til.late (by rfl)) (fun hC hS => ?_)
              clear hK K
              refine AnyL.nxt 7 (by kernel_rfl) hC (fun o ho K hK => ?_)
              cases ho
              go_simp
              refine hK.out _ _ (Til.late (by rfl)) (fun hC hS => ?_)
              clear hK K
              refine AnyL.done (by kernel_rfl) ?_ _
              clear hC hS
              go_wp2_with fail
              go_meet
              exact ⟨b3, b4, rfl, rfl, (H3.out.seven (.int .i64 0) (.int .i64 0) (.string ⟨#[]⟩) (.slice none 0 0) (.slice none 0 0) (.slice none 0 0) (.int .i64 1)).seven_far hne (.int .i64 0) (.int .i64 0) (.string ⟨#[]⟩) (.slice none 0 0) (.slice none 0 0) (.slice none 0 0) (.int .i64 1), (H4.out.seven_far hne2 (.int .i64 0) (.int .i64 0) (.string ⟨#[]⟩) (.slice none 0 0) (.slice none 0 0) (.slice none 0 0) (.int .i64 1)).seven (.int .i64 0) (.int .i64 0) (.string ⟨#[]⟩) (.slice none 0 0) (.slice none 0 0) (.slice none 0 0) (.int .i64 1), Old.chg_ (Old.chg_ HW2.out (seven_stores _ b3 (.int .i64 0) (.int .i64 0) (.string ⟨#[]⟩) (.slice none 0 0) (.slice none 0 0) (.slice none 0 0) (.int .i64 1)) fun i hi => by omega) (seven_stores _ b4 (.int .i64 0) (.int .i64 0) (.string ⟨#[]⟩) (.slice none 0 0) (.slice none 0 0) (.slice none 0 0) (.int .i64 1)) fun i hi => by omega⟩
      ·
        cases ho
        go_simp
        refine hK.out _ _ (Til.mk (HB.out.old ((Old.refl _).alloc _))) (fun hC hS => ?_)
        clear hK K
        have H4 := Lib.hid (Blk.new_after HW.out (B := w2.heap.size) (by simp) #[.int .i64 0, .int .i64 0, .string ⟨#[]⟩, .slice none 0 0, .slice none 0 0, .slice none 0 0, .int .i64 0] 31)
        replace HB := Lib.hid (HB.out.alloc (.cells #[.int .i64 0, .int .i64 0, .string ⟨#[]⟩, .slice none 0 0, .slice none 0 0, .slice none 0 0, .int .i64 0] 31))
        replace HW := Lib.hid (HW.out.alloc (.cells #[.int .i64 0, .int .i64 0, .string ⟨#[]⟩, .slice none 0 0, .slice none 0 0, .slice none 0 0, .int .i64 0] 31))
        replace HW2 := Lib.hid (HW2.out.alloc (.cells #[.int .i64 0, .int .i64 0, .string ⟨#[]⟩, .slice none 0 0, .slice none 0 0, .slice none 0 0, .int .i64 0] 31))
        refine AnyL.each [1, 4] (by kernel_rfl) (by simp) hC (fun i hi o ho K hK => ?_)
        simp only [List.mem_cons, List.mem_nil_iff, or_false] at hi
        rcases hi with rfl | rfl
        ·
          cases ho
          have hh := down_else GA.out K4.out _ ok _ _ _ _ _ _ (C.out.old HW.out)
          have HH := Lib.hid hh
          clear hh
          go_simp
          refine HH.out.mono ?_
          rintro e w14 ⟨rfl, ho⟩
          have hsw14 := ho.size
          try simp at hsw14
          replace H4 := Lib.hid (H4.out.old ho)
          have y40 : w14.cell? ⟨w2.heap.size, 0, none⟩ = some (.int .i64 0) := H4.out.cell 0
          have v40 : w14.frozen? ⟨w2.heap.size, 0, none⟩ = false := H4.out.frozen 0
          have y41 : w14.cell? ⟨w2.heap.size, 1, none⟩ = some (.int .i64 0) := H4.out.cell 1
          have v41 : w14.frozen? ⟨w2.heap.size, 1, none⟩ = false := H4.out.frozen 1
          have y42 : w14.cell? ⟨w2.heap.size, 2, none⟩ = some (.string ⟨#[]⟩) := H4.out.cell 2
          have v42 : w14.frozen? ⟨w2.heap.size, 2, none⟩ = false := H4.out.frozen 2
          have y43 : w14.cell? ⟨w2.heap.size, 3, none⟩ = some (.slice none 0 0) := H4.out.cell 3
          have v43 : w14.frozen? ⟨w2.heap.size, 3, none⟩ = false := H4.out.frozen 3
          have y44 : w14.cell? ⟨w2.heap.size, 4, none⟩ = some (.slice none 0 0) := H4.out.cell 4
          have v44 : w14.frozen? ⟨w2.heap.size, 4, none⟩ = false := H4.out.frozen 4
          have y45 : w14.cell? ⟨w2.heap.size, 5, none⟩ = some (.slice none 0 0) := H4.out.cell 5
          have v45 : w14.frozen? ⟨w2.heap.size, 5, none⟩ = false := H4.out.frozen 5
          have y46 : w14.cell? ⟨w2.heap.size, 6, none⟩ = some (.int .i64 0) := H4.out.cell 6
          have v46 : w14.frozen? ⟨w2.heap.size, 6, none⟩ = false := H4.out.frozen 6
          have l4 : w2.heap.size < w14.heap.size := H4.out.lt
          replace HB := Lib.hid (HB.out.old ho)
          replace HW := Lib.hid (HW.out.trans ho)
          replace HW2 := Lib.hid (HW2.out.trans ho)
          clear ho HH
          refine hK.out _ _ (Til.mk HB.out) (fun hC hS => ?_)
          clear hK K
          refine AnyL.each [3, 4] (by kernel_rfl) (by simp) hC (fun i hi o ho K hK => ?_)
          simp only [List.mem_cons, List.mem_nil_iff, or_false] at hi
          rcases hi with rfl | rfl
          ·
            cases ho
            have hh := up_else GA.out K4.out _ ok _ _ _ _ _ _ (C.out.old HW.out)
            have HH := Lib.hid hh
            clear hh
            go_simp
            refine HH.out.mono ?_
            rintro e w15 ⟨rfl, ho⟩
            have hsw15 := ho.size
            try simp at hsw15
            replace H4 := Lib.hid (H4.out.old ho)
            have y40 : w15.cell? ⟨w2.heap.size, 0, none⟩ = some (.int .i64 0) := H4.out.cell 0
            have v40 : w15.frozen? ⟨w2.heap.size, 0, none⟩ = false := H4.out.frozen 0
            have y41 : w15.cell? ⟨w2.heap.size, 1, none⟩ = some (.int .i64 0) := H4.out.cell 1
            have v41 : w15.frozen? ⟨w2.heap.size, 1, none⟩ = false := H4.out.frozen 1
            have y42 : w15.cell? ⟨w2.heap.size, 2, none⟩ = some (.string ⟨#[]⟩) := H4.out.cell 2
            have v42 : w15.frozen? ⟨w2.heap.size, 2, none⟩ = false := H4.out.frozen 2
            have y43 : w15.cell? ⟨w2.heap.size, 3, none⟩ = some (.slice none 0 0) := H4.out.cell 3
            have v43 : w15.frozen? ⟨w2.heap.size, 3, none⟩ = false := H4.out.frozen 3
            have y44 : w15.cell? ⟨w2.heap.size, 4, none⟩ = some (.slice none 0 0) := H4.out.cell 4
            have v44 : w15.frozen? ⟨w2.heap.size, 4, none⟩ = false := H4.out.frozen 4
            have y45 : w15.cell? ⟨w2.heap.size, 5, none⟩ = some (.slice none 0 0) := H4.out.cell 5
            have v45 : w15.frozen? ⟨w2.heap.size, 5, none⟩ = false := H4.out.frozen 5
            have y46 : w15.cell? ⟨w2.heap.size, 6, none⟩ = some (.int .i64 0) := H4.out.cell 6
            have v46 : w15.frozen? ⟨w2.heap.size, 6, none⟩ = false := H4.out.frozen 6
            have l4 : w2.heap.size < w15.heap.size := H4.out.lt
            replace HB := Lib.hid (HB.out.old ho)
            replace HW := Lib.hid (HW.out.trans ho)
            replace HW2 := Lib.hid (HW2.out.trans ho)
            clear ho HH
            refine hK.out _ _ (Til.late (by rfl)) (fun hC hS => ?_)
            clear hK K
            refine AnyL.each [4] (by kernel_rfl) (by simp) hC (fun i hi o ho K hK => ?_)
            simp only [List.mem_cons, List.mem_nil_iff, or_false] at hi
            subst hi
            ·
              cases ho
              go_simp
              refine hK.out _ _ (Til.late (by rfl)) (fun hC hS => ?_)
              clear hK K
              replace H4 := Lib.hid (H4.out.alloc (.cells #[.int .i64 0, .int .i64 0, .string ⟨#[]⟩, .slice none 0 0, .slice none 0 0, .slice none 0 0, .int .i64 0] 31))
              have H3 := Lib.hid (Blk.new_after HW.out (B := w15.heap.size) (by simp) #[.int .i64 0, .int .i64 0, .string ⟨#[]⟩, .slice none 0 0, .slice none 0 0, .slice none 0 0, .int .i64 0] 31)
              replace HB := Lib.hid (HB.out.alloc (.cells #[.int .i64 0, .int .i64 0, .string ⟨#[]⟩, .slice none 0 0, .slice none 0 0, .slice none 0 0, .int .i64 0] 31))
              replace HW := Lib.hid (HW.out.alloc (.cells #[.int .i64 0, .int .i64 0, .string ⟨#[]⟩, .slice none 0 0, .slice none 0 0, .slice none 0 0, .int .i64 0] 31))
              replace HW2 := Lib.hid (HW2.out.alloc (.cells #[.int .i64 0, .int .i64 0, .string ⟨#[]⟩, .slice none 0 0, .slice none 0 0, .slice none 0 0, .int .i64 0] 31))
              have hne : w15.heap.size ≠ w2.heap.size := by omega
              have hne2 : w2.heap.size ≠ w15.heap.size := by omega
              obtain ⟨b3, hb3⟩ : ∃ x, x = w15.heap.size := ⟨_, rfl⟩
              obtain ⟨b4, hb4⟩ : ∃ x, x = w2.heap.size := ⟨_, rfl⟩
              have H3b := H3.out
              have H4b := H4.out
              rw [← hb3] at H3b hne hne2 ⊢
              rw [← hb4] at H4b hne hne2 ⊢
              refine AnyL.opaque (F := fun W => Blk W b3 #[.int .i64 0, .int .i64 0, .string ⟨#[]⟩, .slice none 0 0, .slice none 0 0, .slice none 0 0, .int .i64 0] 31 ∧ Blk W b4 #[.int .i64 0, .int .i64 0, .string ⟨#[]⟩, .slice none 0 0, .slice none 0 0, .slice none 0 0, .int .i64 0] 31 ∧ Old w2 W) ⟨H3b, H4b, HW2.out⟩ ?_
              clear H3 H4 H3b H4b HW HB HW2 hS
              rintro W ⟨H3, H4, HW2⟩
              have hw3 : w2.heap.size ≤ b3 := by omega
              have hw4 : w2.heap.size ≤ b4 := by omega
              clear hb3 hb4
              have y30 : W.cell? ⟨b3, 0, none⟩ = some (.int .i64 0) := H3.cell 0
              have v30 : W.frozen? ⟨b3, 0, none⟩ = false := H3.frozen 0
              have y31 : W.cell? ⟨b3, 1, none⟩ = some (.int .i64 0) := H3.cell 1
              have v31 : W.frozen? ⟨b3, 1, none⟩ = false := H3.frozen 1
              have y32 : W.cell? ⟨b3, 2, none⟩ = some (.string ⟨#[]⟩) := H3.cell 2
              have v32 : W.frozen? ⟨b3, 2, none⟩ = false := H3.frozen 2
              have y33 : W.cell? ⟨b3, 3, none⟩ = some (.slice none 0 0) := H3.cell 3
              have v33 : W.frozen? ⟨b3, 3, none⟩ = false := H3.frozen 3
              have y34 : W.cell? ⟨b3, 4, none⟩ = some (.slice none 0 0) := H3.cell 4
              have v34 : W.frozen? ⟨b3, 4, none⟩ = false := H3.frozen 4
              have y35 : W.cell? ⟨b3, 5, none⟩ = some (.slice none 0 0) := H3.cell 5
              have v35 : W.frozen? ⟨b3, 5, none⟩ = false := H3.frozen 5
              have y36 : W.cell? ⟨b3, 6, none⟩ = some (.int .i64 0) := H3.cell 6
              have v36 : W.frozen? ⟨b3, 6, none⟩ = false := H3.frozen 6
              have l3 : b3 < W.heap.size := H3.lt
              have y40 : W.cell? ⟨b4, 0, none⟩ = some (.int .i64 0) := H4.cell 0
              have v40 : W.frozen? ⟨b4, 0, none⟩ = false := H4.frozen 0
              have y41 : W.cell? ⟨b4, 1, none⟩ = some (.int .i64 0) := H4.cell 1
              have v41 : W.frozen? ⟨b4, 1, none⟩ = false := H4.frozen 1
              have y42 : W.cell? ⟨b4, 2, none⟩ = some (.string ⟨#[]⟩) := H4.cell 2
              have v42 : W.frozen? ⟨b4, 2, none⟩ = false := H4.frozen 2
              have y43 : W.cell? ⟨b4, 3, none⟩ = some (.slice none 0 0) := H4.cell 3
              have v43 : W.frozen? ⟨b4, 3, none⟩ = false := H4.frozen 3
              have y44 : W.cell? ⟨b4, 4, none⟩ = some (.slice none 0 0) := H4.cell 4
              have v44 : W.frozen? ⟨b4, 4, none⟩ = false := H4.frozen 4
              have y45 : W.cell? ⟨b4, 5, none⟩ = some (.slice none 0 0) := H4.cell 5
              have v45 : W.frozen? ⟨b4, 5, none⟩ = false := H4.frozen 5
              have y46 : W.cell? ⟨b4, 6, none⟩ = some (.int .i64 0) := H4.cell 6
              have v46 : W.frozen? ⟨b4, 6, none⟩ = false := H4.frozen 6
              have l4 : b4 < W.heap.size := H4.lt
              replace H3 := Lib.hid H3
              replace H4 := Lib.hid H4
              replace HW2 := Lib.hid HW2
              refine AnyL.nxt 6 (by kernel_rfl) hC (fun o ho K hK => ?_)
              cases ho
              go_simp
              refine hK.out _ _ (Til.late (by rfl)) (fun hC hS => ?_)
              clear hK K
              refine AnyL.nxt 7 (by kernel_rfl) hC (fun o ho K hK => ?_)
              cases ho
              go_simp
              refine hK.out _ _ (Til.late (by rfl)) (fun hC hS => ?_)
              clear hK K
              refine AnyL.done (by kernel_rfl) ?_ _
              clear hC hS
              go_wp2_with fail
              go_meet
              exact ⟨b3, b4, rfl, rfl, (H3.out.seven (.int .i64 0) (.int .i64 0) (.string ⟨#[]⟩) (.slice none 0 0) (.slice none 0 0) (.slice none 0 0) (.int .i64 1)).seven_far hne (.int .i64 0) (.int .i64 0) (.string ⟨#[]⟩) (.slice none 0 0) (.slice none 0 0) (.slice none 0 0) (.int .i64 1), (H4.out.seven_far hne2 (.int .i64 0) (.int .i64 0) (.string ⟨#[]⟩) (.slice none 0 0) (.slice none 0 0) (.slice none 0 0) (.int .i64 1)).seven (.int .i64 0) (.int .i64 0) (.string ⟨#[]⟩) (.slice none 0 0) (.slice none 0 0) (.slice none 0 0) (.int .i64 1), Old.chg_ (Old.chg_ HW2.out (seven_stores _ b3 (.int .i64 0) (.int .i64 0) (.string ⟨#[]⟩) (.slice none 0 0) (.slice none 0 0) (.slice none 0 0) (.int .i64 1)) fun i hi => by omega) (seven_stores _ b4 (.int .i64 0) (.int .i64 0) (.string ⟨#[]⟩) (.slice none 0 0) (.slice none 0 0) (.slice none 0 0) (.int .i64 1)) fun i hi => by omega⟩
          ·
            cases ho
            go_simp
            refine hK.out _ _ (Til.mk (HB.out.old ((Old.refl _).alloc _))) (fun hC hS => ?_)
            clear hK K
            replace H4 := Lib.hid (H4.out.alloc (.cells #[.int .i64 0, .int .i64 0, .string ⟨#[]⟩, .slice none 0 0, .slice none 0 0, .slice none 0 0, .int .i64 0] 31))
            have H3 := Lib.hid (Blk.new_after HW.out (B := w14.heap.size) (by simp) #[.int .i64 0, .int .i64 0, .string ⟨#[]⟩, .slice none 0 0, .slice none 0 0, .slice none 0 0, .int .i64 0] 31)
            replace HB := Lib.hid (HB.out.alloc (.cells #[.int .i64 0, .int .i64 0, .string ⟨#[]⟩, .slice none 0 0, .slice none 0 0, .slice none 0 0, .int .i64 0] 31))
            replace HW := Lib.hid (HW.out.alloc (.cells #[.int .i64 0, .int .i64 0, .string ⟨#[]⟩, .slice none 0 0, .slice none 0 0, .slice none 0 0, .int .i64 0] 31))
            replace HW2 := Lib.hid (HW2.out.alloc (.cells #[.int .i64 0, .int .i64 0, .string ⟨#[]⟩, .slice none 0 0, .slice none 0 0, .slice none 0 0, .int .i64 0] 31))
            refine AnyL.each [3] (by kernel_rfl) (by simp) hC (fun i hi o ho K hK => ?_)
            simp only [List.mem_cons, List.mem_nil_iff, or_false] at hi
            subst hi
            ·
              cases ho
              have hh := up_else GA.out K4.out _ ok _ _ _ _ _ _ (C.out.old HW.out)
              have HH := Lib.hid hh
              clear hh
              go_simp
              refine HH.out.mono ?_
              rintro e w16 ⟨rfl, ho⟩
              have hsw16 := ho.size
              try simp at hsw16
              replace H3 := Lib.hid (H3.out.old ho)
              have y30 : w16.cell? ⟨w14.heap.size, 0, none⟩ = some (.int .i64 0) := H3.out.cell 0
              have v30 : w16.frozen? ⟨w14.heap.size, 0, none⟩ = false := H3.out.frozen 0
              have y31 : w16.cell? ⟨w14.heap.size, 1, none⟩ = some (.int .i64 0) := H3.out.cell 1
              have v31 : w16.frozen? ⟨w14.heap.size, 1, none⟩ = false := H3.out.frozen 1
              have y32 : w16.cell? ⟨w14.heap.size, 2, none⟩ = some (.string ⟨#[]⟩) := H3.out.cell 2
              have v32 : w16.frozen? ⟨w14.heap.size, 2, none⟩ = false := H3.out.frozen 2
              have y33 : w16.cell? ⟨w14.heap.size, 3, none⟩ = some (.slice none 0 0) := H3.out.cell 3
              have v33 : w16.frozen? ⟨w14.heap.size, 3, none⟩ = false := H3.out.frozen 3
              have y34 : w16.cell? ⟨w14.heap.size, 4, none⟩ = some (.slice none 0 0) := H3.out.cell 4
              have v34 : w16.frozen? ⟨w14.heap.size, 4, none⟩ = false := H3.out.frozen 4
              have y35 : w16.cell? ⟨w14.heap.size, 5, none⟩ = some (.slice none 0 0) := H3.out.cell 5
              have v35 : w16.frozen? ⟨w14.heap.size, 5, none⟩ = false := H3.out.frozen 5
              have y36 : w16.cell? ⟨w14.heap.size, 6, none⟩ = some (.int .i64 0) := H3.out.cell 6
              have v36 : w16.frozen? ⟨w14.heap.size, 6, none⟩ = false := H3.out.frozen 6
              have l3 : w14.heap.size < w16.heap.size := H3.out.lt
              replace H4 := Lib.hid (H4.out.old ho)
              have y40 : w16.cell? ⟨w2.heap.size, 0, none⟩ = some (.int .i64 0) := H4.out.cell 0
              have v40 : w16.frozen? ⟨w2.heap.size, 0, none⟩ = false := H4.out.frozen 0
              have y41 : w16.cell? ⟨w2.heap.size, 1, none⟩ = some (.int .i64 0) := H4.out.cell 1
              have v41 : w16.frozen? ⟨w2.heap.size, 1, none⟩ = false := H4.out.frozen 1
              have y42 : w16.cell? ⟨w2.heap.size, 2, none⟩ = some (.string ⟨#[]⟩) := H4.out.cell 2
              have v42 : w16.frozen? ⟨w2.heap.size, 2, none⟩ = false := H4.out.frozen 2
              have y43 : w16.cell? ⟨w2.heap.size, 3, none⟩ = some (.slice none 0 0) := H4.out.cell 3
              have v43 : w16.frozen? ⟨w2.heap.size, 3, none⟩ = false := H4.out.frozen 3
              have y44 : w16.cell? ⟨w2.heap.size, 4, none⟩ = some (.slice none 0 0) := H4.out.cell 4
              have v44 : w16.frozen? ⟨w2.heap.size, 4, none⟩ = false := H4.out.frozen 4
              have y45 : w16.cell? ⟨w2.heap.size, 5, none⟩ = some (.slice none 0 0) := H4.out.cell 5
              have v45 : w16.frozen? ⟨w2.heap.size, 5, none⟩ = false := H4.out.frozen 5
              have y46 : w16.cell? ⟨w2.heap.size, 6, none⟩ = some (.int .i64 0) := H4.out.cell 6
              have v46 : w16.frozen? ⟨w2.heap.size, 6, none⟩ = false := H4.out.frozen 6
              have l4 : w2.heap.size < w16.heap.size := H4.out.lt
              replace HB := Lib.hid (HB.out.old ho)
              replace HW := Lib.hid (HW.out.trans ho)
              replace HW2 := Lib.hid (HW2.out.trans ho)
              clear ho HH
              refine hK.out _ _ (Til.late (by rfl)) (fun hC hS => ?_)
              clear hK K
              have hne : w14.heap.size ≠ w2.heap.size := by omega
              have hne2 : w2.heap.size ≠ w14.heap.size := by omega
              obtain ⟨b3, hb3⟩ : ∃ x, x = w14.heap.size := ⟨_, rfl⟩
              obtain ⟨b4, hb4⟩ : ∃ x, x = w2.heap.size := ⟨_, rfl⟩
              have H3b := H3.out
              have H4b := H4.out
              rw [← hb3] at H3b hne hne2 ⊢
              rw [← hb4] at H4b hne hne2 ⊢
              refine AnyL.opaque (F := fun W => Blk W b3 #[.int .i64 0, .int .i64 0, .string ⟨#[]⟩, .slice none 0 0, .slice none 0 0, .slice none 0 0, .int .i64 0] 31 ∧ Blk W b4 #[.int .i64 0, .int .i64 0, .string ⟨#[]⟩, .slice none 0 0, .slice none 0 0, .slice none 0 0, .int .i64 0] 31 ∧ Old w2 W) ⟨H3b, H4b, HW2.out⟩ ?_
              clear H3 H4 H3b H4b HW HB HW2 hS
              rintro W ⟨H3, H4, HW2⟩
              have hw3 : w2.heap.size ≤ b3 := by omega
              have hw4 : w2.heap.size ≤ b4 := by omega
              clear hb3 hb4
              have y30 : W.cell? ⟨b3, 0, none⟩ = some (.int .i64 0) := H3.cell 0
              have v30 : W.frozen? ⟨b3, 0, none⟩ = false := H3.frozen 0
              have y31 : W.cell? ⟨b3, 1, none⟩ = some (.int .i64 0) := H3.cell 1
              have v31 : W.frozen? ⟨b3, 1, none⟩ = false := H3.frozen 1
              have y32 : W.cell? ⟨b3, 2, none⟩ = some (.string ⟨#[]⟩) := H3.cell 2
              have v32 : W.frozen? ⟨b3, 2, none⟩ = false := H3.frozen 2
              have y33 : W.cell? ⟨b3, 3, none⟩ = some (.slice none 0 0) := H3.cell 3
              have v33 : W.frozen? ⟨b3, 3, none⟩ = false := H3.frozen 3
              have y34 : W.cell? ⟨b3, 4, none⟩ = some (.slice none 0 0) := H3.cell 4
              have v34 : W.frozen? ⟨b3, 4, none⟩ = false := H3.frozen 4
              have y35 : W.cell? ⟨b3, 5, none⟩ = some (.slice none 0 0) := H3.cell 5
              have v35 : W.frozen? ⟨b3, 5, none⟩ = false := H3.frozen 5
              have y36 : W.cell? ⟨b3, 6, none⟩ = some (.int .i64 0) := H3.cell 6
              have v36 : W.frozen? ⟨b3, 6, none⟩ = false := H3.frozen 6
              have l3 : b3 < W.heap.size := H3.lt
              have y40 : W.cell? ⟨b4, 0, none⟩ = some (.int .i64 0) := H4.cell 0
              have v40 : W.frozen? ⟨b4, 0, none⟩ = false := H4.frozen 0
              have y41 : W.cell? ⟨b4, 1, none⟩ = some (.int .i64 0) := H4.cell 1
              have v41 : W.frozen? ⟨b4, 1, none⟩ = false := H4.frozen 1
              have y42 : W.cell? ⟨b4, 2, none⟩ = some (.string ⟨#[]⟩) := H4.cell 2
              have v42 : W.frozen? ⟨b4, 2, none⟩ = false := H4.frozen 2
              have y43 : W.cell? ⟨b4, 3, none⟩ = some (.slice none 0 0) := H4.cell 3
              have v43 : W.frozen? ⟨b4, 3, none⟩ = false := H4.frozen 3
              have y44 : W.cell? ⟨b4, 4, none⟩ = some (.slice none 0 0) := H4.cell 4
              have v44 : W.frozen? ⟨b4, 4, none⟩ = false := H4.frozen 4
              have y45 : W.cell? ⟨b4, 5, none⟩ = some (.slice none 0 0) := H4.cell 5
              have v45 : W.frozen? ⟨b4, 5, none⟩ = false := H4.frozen 5
              have y46 : W.cell? ⟨b4, 6, none⟩ = some (.int .i64 0) := H4.cell 6
              have v46 : W.frozen? ⟨b4, 6, none⟩ = false := H4.frozen 6
              have l4 : b4 < W.heap.size := H4.lt
              replace H3 := Lib.hid H3
              replace H4 := Lib.hid H4
              replace HW2 := Lib.hid HW2
              refine AnyL.nxt 6 (by kernel_rfl) hC (fun o ho K hK => ?_)
              cases ho
              go_simp
              refine hK.out _ _ (Til.late (by rfl)) (fun hC hS => ?_)
              clear hK K
              refine AnyL.nxt 7 (by kernel_rfl) hC (fun o ho K hK => ?_)
              cases ho
              go_simp
              refine hK.out _ _ (Til.late (by rfl)) (fun hC hS => ?_)
              clear hK K
              refine AnyL.done (by kernel_rfl) ?_ _
              clear hC hS
              go_wp2_with fail
              go_meet
              exact ⟨b3, b4, rfl, rfl, (H3.out.seven (.int .i64 0) (.int .i64 0) (.string ⟨#[]⟩) (.slice none 0 0) (.slice none 0 0) (.slice none 0 0) (.int .i64 1)).seven_far hne (.int .i64 0) (.int .i64 0) (.string ⟨#[]⟩) (.slice none 0 0) (.slice none 0 0) (.slice none 0 0) (.int .i64 1), (H4.out.seven_far hne2 (.int .i64 0) (.int .i64 0) (.string ⟨#[]⟩) (.slice none 0 0) (.slice none 0 0) (.slice none 0 0) (.int .i64 1)).seven (.int .i64 0) (.int .i64 0) (.string ⟨#[]⟩) (.slice none 0 0) (.slice none 0 0) (.slice none 0 0) (.int .i64 1), Old.chg_ (Old.chg_ HW2.out (seven_stores _ b3 (.int .i64 0) (.int .i64 0) (.string ⟨#[]⟩) (.slice none 0 0) (.slice none 0 0) (.slice none 0 0) (.int .i64 1)) fun i hi => by omega) (seven_stores _ b4 (.int .i64 0) (.int .i64 0) (.string ⟨#[]⟩) (.slice none 0 0) (.slice none 0 0) (.slice none 0 0) (.int .i64 1)) fun i hi => by omega⟩
        ·
          cases ho
          go_simp
          refine hK.out _ _ (Til.mk (HB.out.old ((Old.refl _).alloc _))) (fun hC hS => ?_)
          clear hK K
          replace H4 := Lib.hid (H4.out.alloc (.cells #[.int .i64 0, .int .i64 0, .string ⟨#[]⟩, .slice none 0 0, .slice none 0 0, .slice none 0 0, .int .i64 0] 31))
          have H3 := Lib.hid (Blk.new_after HW.out (B := w2.heap.size + 1) (by simp) #[.int .i64 0, .int .i64 0, .string ⟨#[]⟩, .slice none 0 0, .slice none 0 0, .slice none 0 0, .int .i64 0] 31)
          replace HB := Lib.hid (HB.out.alloc (.cells #[.int .i64 0, .int .i64 0, .string ⟨#[]⟩, .slice none 0 0, .slice none 0 0, .slice none 0 0, .int .i64 0] 31))
          replace HW := Lib.hid (HW.out.alloc (.cells #[.int .i64 0, .int .i64 0, .string ⟨#[]⟩, .slice none 0 0, .slice none 0 0, .slice none 0 0, .int .i64 0] 31))
          replace HW2 := Lib.hid (HW2.out.alloc (.cells #[.int .i64 0, .int .i64 0, .string ⟨#[]⟩, .slice none 0 0, .slice none 0 0, .slice none 0 0, .int .i64 0] 31))
          refine AnyL.each [1] (by kernel_rfl) (by simp) hC (fun i hi o ho K hK => ?_)
          simp only [List.mem_cons, List.mem_nil_iff, or_false] at hi
          subst hi
          ·
            cases ho
            have hh := down_else GA.out K4.out _ ok _ _ _ _ _ _ (C.out.old HW.out)
            have HH := Lib.hid hh
            clear hh
            go_simp
            refine HH.out.mono ?_
            rintro e w17 ⟨rfl, ho⟩
            have hsw17 := ho.size
            try simp at hsw17
            replace H3 := Lib.hid (H3.out.old ho)
            have y30 : w17.cell? ⟨w2.heap.size + 1, 0, none⟩ = some (.int .i64 0) := H3.out.cell 0
            have v30 : w17.frozen? ⟨w2.heap.size + 1, 0, none⟩ = false := H3.out.frozen 0
            have y31 : w17.cell? ⟨w2.heap.size + 1, 1, none⟩ = some (.int .i64 0) := H3.out.cell 1
            have v31 : w17.frozen? ⟨w2.heap.size + 1, 1, none⟩ = false := H3.out.frozen 1
            have y32 : w17.cell? ⟨w2.heap.size + 1, 2, none⟩ = some (.string ⟨#[]⟩) := H3.out.cell 2
            have v32 : w17.frozen? ⟨w2.heap.size + 1, 2, none⟩ = false := H3.out.frozen 2
            have y33 : w17.cell? ⟨w2.heap.size + 1, 3, none⟩ = some (.slice none 0 0) := H3.out.cell 3
            have v33 : w17.frozen? ⟨w2.heap.size + 1, 3, none⟩ = false := H3.out.frozen 3
            have y34 : w17.cell? ⟨w2.heap.size + 1, 4, none⟩ = some (.slice none 0 0) := H3.out.cell 4
            have v34 : w17.frozen? ⟨w2.heap.size + 1, 4, none⟩ = false := H3.out.frozen 4
            have y35 : w17.cell? ⟨w2.heap.size + 1, 5, none⟩ = some (.slice none 0 0) := H3.out.cell 5
            have v35 : w17.frozen? ⟨w2.heap.size + 1, 5, none⟩ = false := H3.out.frozen 5
            have y36 : w17.cell? ⟨w2.heap.size + 1, 6, none⟩ = some (.int .i64 0) := H3.out.cell 6
            have v36 : w17.frozen? ⟨w2.heap.size + 1, 6, none⟩ = false := H3.out.frozen 6
            have l3 : w2.heap.size + 1 < w17.heap.size := H3.out.lt
            replace H4 := Lib.hid (H4.out.old ho)
            have y40 : w17.cell? ⟨w2.heap.size, 0, none⟩ = some (.int .i64 0) := H4.out.cell 0
            have v40 : w17.frozen? ⟨w2.heap.size, 0, none⟩ = false := H4.out.frozen 0
            have y41 : w17.cell? ⟨w2.heap.size, 1, none⟩ = some (.int .i64 0) := H4.out.cell 1
            have v41 : w17.frozen? ⟨w2.heap.size, 1, none⟩ = false := H4.out.frozen 1
            have y42 : w17.cell? ⟨w2.heap.size, 2, none⟩ = some (.string ⟨#[]⟩) := H4.out.cell 2
            have v42 : w17.frozen? ⟨w2.heap.size, 2, none⟩ = false := H4.out.frozen 2
            have y43 : w17.cell? ⟨w2.heap.size, 3, none⟩ = some (.slice none 0 0) := H4.out.cell 3
            have v43 : w17.frozen? ⟨w2.heap.size, 3, none⟩ = false := H4.out.frozen 3
            have y44 : w17.cell? ⟨w2.heap.size, 4, none⟩ = some (.slice none 0 0) := H4.out.cell 4
            have v44 : w17.frozen? ⟨w2.heap.size, 4, none⟩ = false := H4.out.frozen 4
            have y45 : w17.cell? ⟨w2.heap.size, 5, none⟩ = some (.slice none 0 0) := H4.out.cell 5
            have v45 : w17.frozen? ⟨w2.heap.size, 5, none⟩ = false := H4.out.frozen 5
            have y46 : w17.cell? ⟨w2.heap.size, 6, none⟩ = some (.int .i64 0) := H4.out.cell 6
            have v46 : w17.frozen? ⟨w2.heap.size, 6, none⟩ = false := H4.out.frozen 6
            have l4 : w2.heap.size < w17.heap.size := H4.out.lt
            replace HB := Lib.hid (HB.out.old ho)
            replace HW := Lib.hid (HW.out.trans ho)
            replace HW2 := Lib.hid (HW2.out.trans ho)
            clear ho HH
            refine hK.out _ _ (Til.mk HB.out) (fun hC hS => ?_)
            clear hK K
            refine AnyL.each [3] (by kernel_rfl) (by simp) hC (fun i hi o ho K hK => ?_)
            simp only [List.mem_cons, List.mem_nil_iff, or_false] at hi
            subst hi
            ·
              cases ho
              have hh := up_else GA.out K4.out _ ok _ _ _ _ _ _ (C.out.old HW.out)
              have HH := Lib.hid hh
              clear hh
              go_simp
              refine HH.out.mono ?_
              rintro e w18 ⟨rfl, ho⟩
              have hsw18 := ho.size
              try simp at hsw18
              replace H3 := Lib.hid (H3.out.old ho)
              have y30 : w18.cell? ⟨w2.heap.size + 1, 0, none⟩ = some (.int .i64 0) := H3.out.cell 0
              have v30 : w18.frozen? ⟨w2.heap.size + 1, 0, none⟩ = false := H3.out.frozen 0
              have y31 : w18.cell? ⟨w2.heap.size + 1, 1, none⟩ = some (.int .i64 0) := H3.out.cell 1
              have v31 : w18.frozen? ⟨w2.heap.size + 1, 1, none⟩ = false := H3.out.frozen 1
              have y32 : w18.cell? ⟨w2.heap.size + 1, 2, none⟩ = some (.string ⟨#[]⟩) := H3.out.cell 2
              have v32 : w18.frozen? ⟨w2.heap.size + 1, 2, none⟩ = false := H3.out.frozen 2
              have y33 : w18.cell? ⟨w2.heap.size + 1, 3, none⟩ = some (.slice none 0 0) := H3.out.cell 3
              have v33 : w18.frozen? ⟨w2.heap.size + 1, 3, none⟩ = false := H3.out.frozen 3
              have y34 : w18.cell? ⟨w2.heap.size + 1, 4, none⟩ = some (.slice none 0 0) := H3.out.cell 4
              have v34 : w18.frozen? ⟨w2.heap.size + 1, 4, none⟩ = false := H3.out.frozen 4
              have y35 : w18.cell? ⟨w2.heap.size + 1, 5, none⟩ = some (.slice none 0 0) := H3.out.cell 5
              have v35 : w18.frozen? ⟨w2.heap.size + 1, 5, none⟩ = false := H3.out.frozen 5
              have y36 : w18.cell? ⟨w2.heap.size + 1, 6, none⟩ = some (.int .i64 0) := H3.out.cell 6
              have v36 : w18.frozen? ⟨w2.heap.size + 1, 6, none⟩ = false := H3.out.frozen 6
              have l3 : w2.heap.size + 1 < w18.heap.size := H3.out.lt
              replace H4 := Lib.hid (H4.out.old ho)
              have y40 : w18.cell? ⟨w2.heap.size, 0, none⟩ = some (.int .i64 0) := H4.out.cell 0
              have v40 : w18.frozen? ⟨w2.heap.size, 0, none⟩ = false := H4.out.frozen 0
              have y41 : w18.cell? ⟨w2.heap.size, 1, none⟩ = some (.int .i64 0) := H4.out.cell 1
              have v41 : w18.frozen? ⟨w2.heap.size, 1, none⟩ = false := H4.out.frozen 1
              have y42 : w18.cell? ⟨w2.heap.size, 2, none⟩ = some (.string ⟨#[]⟩) := H4.out.cell 2
              have v42 : w18.frozen? ⟨w2.heap.size, 2, none⟩ = false := H4.out.frozen 2
              have y43 : w18.cell? ⟨w2.heap.size, 3, none⟩ = some (.slice none 0 0) := H4.out.cell 3
              have v43 : w18.frozen? ⟨w2.heap.size, 3, none⟩ = false := H4.out.frozen 3
              have y44 : w18.cell? ⟨w2.heap.size, 4, none⟩ = some (.slice none 0 0) := H4.out.cell 4
              have v44 : w18.frozen? ⟨w2.heap.size, 4, none⟩ = false := H4.out.frozen 4
              have y45 : w18.cell? ⟨w2.heap.size, 5, none⟩ = some (.slice none 0 0) := H4.out.cell 5
              have v45 : w18.frozen? ⟨w2.heap.size, 5, none⟩ = false := H4.out.frozen 5
              have y46 : w18.cell? ⟨w2.heap.size, 6, none⟩ = some (.int .i64 0) := H4.out.cell 6
              have v46 : w18.frozen? ⟨w2.heap.size, 6, none⟩ = false := H4.out.frozen 6
              have l4 : w2.heap.size < w18.heap.size := H4.out.lt
              replace HB := Lib.hid (HB.out.old ho)
              replace HW := Lib.hid (HW.out.trans ho)
              replace HW2 := Lib.hid (HW2.out.trans ho)
              clear ho HH
              refine hK.out _ _ (Til.late (by rfl)) (fun hC hS => ?_)
              clear hK K
              have hne : w2.heap.size + 1 ≠ w2.heap.size := by omega
              have hne2 : w2.heap.size ≠ w2.heap.size + 1 := by omega
              obtain ⟨b3, hb3⟩ : ∃ x, x = w2.heap.size + 1 := ⟨_, rfl⟩
              obtain ⟨b4, hb4⟩ : ∃ x, x = w2.heap.size := ⟨_, rfl⟩
              have H3b := H3.out
              have H4b := H4.out
              rw [← hb3] at H3b hne hne2 ⊢
              rw [← hb4] at H4b hne hne2 ⊢
              refine AnyL.opaque (F := fun W => Blk W b3 #[.int .i64 0, .int .i64 0, .string ⟨#[]⟩, .slice none 0 0, .slice none 0 0, .slice none 0 0, .int .i64 0] 31 ∧ Blk W b4 #[.int .i64 0, .int .i64 0, .string ⟨#[]⟩, .slice none 0 0, .slice none 0 0, .slice none 0 0, .int .i64 0] 31 ∧ Old w2 W) ⟨H3b, H4b, HW2.out⟩ ?_
              clear H3 H4 H3b H4b HW HB HW2 hS
              rintro W ⟨H3, H4, HW2⟩
              have hw3 : w2.heap.size ≤ b3 := by omega
              have hw4 : w2.heap.size ≤ b4 := by omega
              clear hb3 hb4
              have y30 : W.cell? ⟨b3, 0, none⟩ = some (.int .i64 0) := H3.cell 0
              have v30 : W.frozen? ⟨b3, 0, none⟩ = false := H3.frozen 0
              have y31 : W.cell? ⟨b3, 1, none⟩ = some (.int .i64 0) := H3.cell 1
              have v31 : W.frozen? ⟨b3, 1, none⟩ = false := H3.frozen 1
              have y32 : W.cell? ⟨b3, 2, none⟩ = some (.string ⟨#[]⟩) := H3.cell 2
              have v32 : W.frozen? ⟨b3, 2, none⟩ = false := H3.frozen 2
              have y33 : W.cell? ⟨b3, 3, none⟩ = some (.slice none 0 0) := H3.cell 3
              have v33 : W.frozen? ⟨b3, 3, none⟩ = false := H3.frozen 3
              have y34 : W.cell? ⟨b3, 4, none⟩ = some (.slice none 0 0) := H3.cell 4
              have v34 : W.frozen? ⟨b3, 4, none⟩ = false := H3.frozen 4
              have y35 : W.cell? ⟨b3, 5, none⟩ = some (.slice none 0 0) := H3.cell 5
              have v35 : W.frozen? ⟨b3, 5, none⟩ = false := H3.frozen 5
              have y36 : W.cell? ⟨b3, 6, none⟩ = some (.int .i64 0) := H3.cell 6
              have v36 : W.frozen? ⟨b3, 6, none⟩ = false := H3.frozen 6
              have l3 : b3 < W.heap.size := H3.lt
              have y40 : W.cell? ⟨b4, 0, none⟩ = some (.int .i64 0) := H4.cell 0
              have v40 : W.frozen? ⟨b4, 0, none⟩ = false := H4.frozen 0
              have y41 : W.cell? ⟨b4, 1, none⟩ = some (.int .i64 0) := H4.cell 1
              have v41 : W.frozen? ⟨b4, 1, none⟩ = false := H4.frozen 1
              have y42 : W.cell? ⟨b4, 2, none⟩ = some (.string ⟨#[]⟩) := H4.cell 2
              have v42 : W.frozen? ⟨b4, 2, none⟩ = false := H4.frozen 2
              have y43 : W.cell? ⟨b4, 3, none⟩ = some (.slice none 0 0) := H4.cell 3
              have v43 : W.frozen? ⟨b4, 3, none⟩ = false := H4.frozen 3
              have y44 : W.cell? ⟨b4, 4, none⟩ = some (.slice none 0 0) := H4.cell 4
              have v44 : W.frozen? ⟨b4, 4, none⟩ = false := H4.frozen 4
              have y45 : W.cell? ⟨b4, 5, none⟩ = some (.slice none 0 0) := H4.cell 5
              have v45 : W.frozen? ⟨b4, 5, none⟩ = false := H4.frozen 5
              have y46 : W.cell? ⟨b4, 6, none⟩ = some (.int .i64 0) := H4.cell 6
              have v46 : W.frozen? ⟨b4, 6, none⟩ = false := H4.frozen 6
              have l4 : b4 < W.heap.size := H4.lt
              replace H3 := Lib.hid H3
              replace H4 := Lib.hid H4
              replace HW2 := Lib.hid HW2
              refine AnyL.nxt 6 (by kernel_rfl) hC (fun o ho K hK => ?_)
              cases ho
              go_simp
              refine hK.out _ _ (Til.late (by rfl)) (fun hC hS => ?_)
              clear hK K
              refine AnyL.nxt 7 (by kernel_rfl) hC (fun o ho K hK => ?_)
              cases ho
              go_simp
              refine hK.out _ _ (Til.late (by rfl)) (fun hC hS => ?_)
              clear hK K
              refine AnyL.done (by kernel_rfl) ?_ _
              clear hC hS
              go_wp2_with fail
              go_meet
              exact ⟨b3, b4, rfl, rfl, (H3.out.seven (.int .i64 0) (.int .i64 0) (.string ⟨#[]⟩) (.slice none 0 0) (.slice none 0 0) (.slice none 0 0) (.int .i64 1)).seven_far hne (.int .i64 0) (.int .i64 0) (.string ⟨#[]⟩) (.slice none 0 0) (.slice none 0 0) (.slice none 0 0) (.int .i64 1), (H4.out.seven_far hne2 (.int .i64 0) (.int .i64 0) (.string ⟨#[]⟩) (.slice none 0 0) (.slice none 0 0) (.slice none 0 0) (.int .i64 1)).seven (.int .i64 0) (.int .i64 0) (.string ⟨#[]⟩) (.slice none 0 0) (.slice none 0 0) (.slice none 0 0) (.int .i64 1), Old.chg_ (Old.chg_ HW2.out (seven_stores _ b3 (.int .i64 0) (.int .i64 0) (.string ⟨#[]⟩) (.slice none 0 0) (.slice none 0 0) (.slice none 0 0) (.int .i64 1)) fun i hi => by omega) (seven_stores _ b4 (.int .i64 0) (.int .i64 0) (.string ⟨#[]⟩) (.slice none 0 0) (.slice none 0 0) (.slice none 0 0) (.int .i64 1)) fun i hi => by omega⟩
    case rest =>
      obtain ⟨b3, b4, rfl, rfl, hr3, hr4, hox⟩ := hcut
      have R4 := Lib.hid hr4
      have HX := Lib.hid (HO2.out.trans hox)
      have xB := BA.out.old HX.out
      have x0 : wc.cell? ⟨w.heap.size, 0, none⟩ = some (.int .i64 ka) := xB.cell 0
      have xl : w.heap.size < wc.heap.size := xB.lt
      clear xB hox hr4
      have y0 : wc.cell? ⟨b3, 0, none⟩ = some (.int .i64 0) := hr3.cell 0
      have y1 : wc.cell? ⟨b3, 1, none⟩ = some (.int .i64 0) := hr3.cell 1
      have y2 : wc.cell? ⟨b3, 2, none⟩ = some (.string ⟨#[]⟩) := hr3.cell 2
      have y3 : wc.cell? ⟨b3, 3, none⟩ = some (.slice none 0 0) := hr3.cell 3
      have y4 : wc.cell? ⟨b3, 4, none⟩ = some (.slice none 0 0) := hr3.cell 4
      have y5 : wc.cell? ⟨b3, 5, none⟩ = some (.slice none 0 0) := hr3.cell 5
      have y6 : wc.cell? ⟨b3, 6, none⟩ = some (.int .i64 1) := hr3.cell 6
      have yl : b3 < wc.heap.size := hr3.lt
      clear hr3
      go_wp2_with (first | (go_at_call 22; refine (wrong_any wc).mono ?_; go_must (rintro e w6 ⟨rfl, ho6⟩; have HO6 := Lib.hid ho6; have R6 := R4.out.old ho6; have z0 : w6.cell? ⟨b4, 0, none⟩ = some (.int .i64 0) := R6.cell 0; have z1 : w6.cell? ⟨b4, 1, none⟩ = some (.int .i64 0) := R6.cell 1; have z2 : w6.cell? ⟨b4, 2, none⟩ = some (.string ⟨#[]⟩) := R6.cell 2; have z3 : w6.cell? ⟨b4, 3, none⟩ = some (.slice none 0 0) := R6.cell 3; have z4 : w6.cell? ⟨b4, 4, none⟩ = some (.slice none 0 0) := R6.cell 4; have z5 : w6.cell? ⟨b4, 5, none⟩ = some (.slice none 0 0) := R6.cell 5; have z6 : w6.cell? ⟨b4, 6, none⟩ = some (.int .i64 1) := R6.cell 6; have zl : b4 < w6.heap.size := R6.lt; clear ho6 R6)) | (go_at_call 22; go_must (refine (wrong_any _).mono ?_; rintro e w7 ⟨rfl, ho7⟩; have HO7 := Lib.hid ho7; clear ho7)))
      go_ret
      exact ⟨rfl, HO.out.trans (HX.out.trans (HO6.out.trans HO7.out))⟩
end Go.Proofs.YtpoanncombcemaaDoor
