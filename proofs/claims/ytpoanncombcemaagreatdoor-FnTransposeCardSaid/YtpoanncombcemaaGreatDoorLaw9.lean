/-
  Transpose of rows gives their columns, with null where a row is too short: the walk.
  Conditions: none.
-/
import Derived.Test.YtpoanncombcemaaGreatDoorTrL
import Derived.Test.YtpoanncombcemaaGreatDoorZNxt
import Derived.Test.YtpoanncombcemaaGreatDoorLaid
import Derived.Deep.DrawnRows
namespace Go.Proofs.YtpoanncombcemaaGreatDoor
open Go.RowKit
attribute [local go_sem ↓] Go.wp_at_zero Go.wp_at_succ

theorem KVs.any {w : World} {ok : Nat → Prop} {l : List V} {v : Value} (h : KVs w ok l v) : KVs w (fun _ => True) l v := by
  obtain ⟨C, s, r⟩ := h
  exact ⟨C, s.mono fun _ _ _ => trivial, fun i hi => (r i hi).any⟩
theorem KVs.old {w w' : World} {ok : Nat → Prop} {l : List V} {v : Value} (h : KVs w ok l v) (ho : Old w w') : KVs w' ok l v := by
  obtain ⟨C, s, r⟩ := h
  exact ⟨C, s.old ho, fun i hi => (r i hi).old ho⟩
set_option maxHeartbeats 4000000 in
set_option maxRecDepth 100000 in
theorem law9_any {l : List V} (hz : ∀ x ∈ l, Sized x) (hl : l.length ≤ 9223372036854775807) (w : World) (ok : Nat → Prop) (v : Value) (h : KVs w ok l v) (hT : Tabs w) :
    Calls Tryz.prog 3 #[v] w (Yes w) := by
  have H := Lib.hid h
  have HT := Lib.hid hT
  have hsz : ∀ x ∈ [V.arr l], Sized x := fun x hx => by
    obtain rfl := List.mem_singleton.1 hx
    exact .mk 5 0 nilS l [] [] (by decide) hl (by simp) (by simp) (fun _ h => by cases h) hz (fun _ h => by cases h)
  have HS := Lib.hid hsz
  obtain ⟨C, s, _⟩ := h
  obtain ⟨A, c, rfl, hcap⟩ := s.len
  clear s hT hz hsz
  by_cases hbig : (2147483647 : Int) < (l.length : Int)
  · go_enter Tryz.func3, Tryz.ntmps3
    go_wp2
    go_ret
    exact ⟨rfl, Old.refl w⟩
  · have hcs : (∃ x how, (∀ r ∈ l, r.kind = 5) ∧ x = transV l ∧ how = (0 : Int)) ∨ (∃ x how, (¬ ∀ r ∈ l, r.kind = 5) ∧ x = V.null ∧ how = (2 : Int)) := by
      by_cases h5 : ∀ r ∈ l, r.kind = 5
      · exact .inl ⟨_, _, h5, rfl, rfl⟩
      · exact .inr ⟨_, _, h5, rfl, rfl⟩
    rcases hcs with ⟨_, _, h5, rfl, rfl⟩ | ⟨_, _, h5, rfl, rfl⟩
    · have H5 := Lib.hid h5
      clear h5
      go_enter Tryz.func3, Tryz.ntmps3
      go_upto_region 8 with (first
        | (go_at_call 8; go_must (refine (larray_any _ _ _ _).mono ?_; rintro e w9 ⟨rfl, ho⟩; first | (have hq := HO3; clear hq; have HO4 := Lib.hid (HO3.out.trans ho); clear ho) | (have HO1 := Lib.hid ho; clear ho)))
        | (go_at_call 7; go_must (refine (fits_any HS.out (by simp) _ _ _ (one_list (KV.arr H.out) _ HO1.out) (HT.out.old (HO1.out.alloc _))).mono ?_; rintro e w3 ⟨b3, rfl, ho, hr⟩; have HO3 := Lib.hid ((HO1.out.alloc _).trans ho); have HG := Lib.hid hr; clear ho hr; cases b3))
        | (go_at_call 9; go_must (have hgg := (HG.out trivial (V.arr l) (by simp)).1; refine (call_tr hgg (good_list hgg).1 (fun r hr => (good_list ((good_list hgg).2 r hr)).1) _ (fun _ => True) A l.length c (H.out.old HO4.out).any (.inl ⟨H5.out, rfl, rfl⟩)).mono ?_; rintro e w5 ⟨g0, g1, g2, g3, g4, g5, rfl, hk, ho⟩; have HO5 := Lib.hid (HO4.out.trans ho); obtain ⟨E1, q1, r1, E2, q2, r2, E3, q3, r3, rfl, rfl, rfl, rfl, rfl, rfl⟩ := shape hk; obtain ⟨ke, hke⟩ : ∃ x, x = (transV l).kind := ⟨_, rfl⟩; obtain ⟨fe, hfe⟩ : ∃ x, x = (transV l).half := ⟨_, rfl⟩; obtain ⟨te, hte⟩ : ∃ x, x = (transV l).text := ⟨_, rfl⟩; rw [← hke, ← hfe, ← hte] at hk ⊢; have HK := Lib.hid (KV.any hk); clear hk hke hfe hte ho hgg)))
      all_goals first
        | (go_ret; exact ⟨rfl, HO3.out⟩)
        | skip
      have hg := (HG.out trivial (V.arr l) (by simp)).1
      have GA := Lib.hid hg
      have GT := Lib.hid (trans_good (good_list hg).1 (good_list hg).2)
      have HW := Lib.hid (HO5.out.alloc (.cells #[.int .i64 ke, .int .i64 fe, .string te, .slice E1 q1 r1, .slice E2 q2 r2, .slice E3 q3 r3] 27)).drew
      have hB : Blk (w5.alloc (.cells #[.int .i64 ke, .int .i64 fe, .string te, .slice E1 q1 r1, .slice E2 q2 r2, .slice E3 q3 r3] 27)).drew w5.heap.size #[.int .i64 ke, .int .i64 fe, .string te, .slice E1 q1 r1, .slice E2 q2 r2, .slice E3 q3 r3] 27 := (Blk.new w5 _ _).drew
      clear hg
      refine AnyL.region 7 (S := Til 5 (fun w' => Blk w' w5.heap.size #[.int .i64 ke, .int .i64 fe, .string te, .slice E1 q1 r1, .slice E2 q2 r2, .slice E3 q3 r3] 27)) rfl (by kernel_rfl) (fun hC => ?_)
      have hS : Til 5 (fun w' => Blk w' w5.heap.size #[.int .i64 ke, .int .i64 fe, .string te, .slice E1 q1 r1, .slice E2 q2 r2, .slice E3 q3 r3] 27) (Array.replicate 7 false) (w5.alloc (.cells #[.int .i64 ke, .int .i64 fe, .string te, .slice E1 q1 r1, .slice E2 q2 r2, .slice E3 q3 r3] 27)).drew := Til.mk hB
      have HB8 := Lib.hid hB
      clear hB
      refine AnyL.take (i := 0) (v := .slice A l.length c) (some 21) (fun _ => True) rfl (by kernel_rfl) (by kernel_rfl) (by kernel_rfl) (fun _ _ _ h => h) (fun _ _ _ _ _ => trivial) (fun l w' => Til.set (by decide) l w') (fun _ ho => by cases ho; exact Or.inl ⟨by rfl, fun w' _ => by go_simp⟩) hC hS (fun hC hS => ?_)
      simp only [Act.put, List.setIfInBounds_toArray, List.set_cons_zero, List.set_cons_succ]
      refine AnyL.take (i := 3) (v := .agg #[.int .i64 ke, .int .i64 fe, .string te, .slice E1 q1 r1, .slice E2 q2 r2, .slice E3 q3 r3]) (some 24) (fun w' => Blk w' w5.heap.size #[.int .i64 ke, .int .i64 fe, .string te, .slice E1 q1 r1, .slice E2 q2 r2, .slice E3 q3 r3] 27) rfl (by kernel_rfl) (by kernel_rfl) (by kernel_rfl) (fun _ _ _ h => h) (fun l w' hC hl hS => hS (hC.un (j := 5) (i := 3) (by kernel_rfl) hl)) (fun l w' => Til.set (by decide) l w') (fun _ ho => by cases ho; exact Or.inl ⟨by rfl, fun w' hB => by have h0 := hB.cell 0; have h1 := hB.cell 1; have h2 := hB.cell 2; have h3 := hB.cell 3; have h4 := hB.cell 4; have h5 := hB.cell 5; go_simp⟩) hC hS (fun hC hS => ?_)
      simp only [Act.put, List.setIfInBounds_toArray, List.set_cons_zero, List.set_cons_succ]
      refine AnyL.take (i := 4) (v := .int .i64 0) (some 25) (fun _ => True) rfl (by kernel_rfl) (by kernel_rfl) (by kernel_rfl) (fun _ _ _ h => h) (fun _ _ _ _ _ => trivial) (fun l w' => Til.set (by decide) l w') (fun _ ho => by cases ho; exact Or.inl ⟨by rfl, fun w' _ => by go_simp⟩) hC hS (fun hC hS => ?_)
      simp only [Act.put, List.setIfInBounds_toArray, List.set_cons_zero, List.set_cons_succ]
      refine AnyL.nxt 1 (by kernel_rfl) hC (fun o ho K hK => ?_)
      cases ho
      go_simp
      refine (larray_any _ _ _ _).mono ?_
      rintro e w6 ⟨rfl, ho6⟩
      have HO6 := Lib.hid ho6
      clear ho6
      refine hK.out _ _ (Til.mk (HB8.out.old HO6.out)) (fun hC hS => ?_)
      clear hK K
      refine AnyL.nxt 2 (by kernel_rfl) hC (fun o ho K hK => ?_)
      cases ho
      go_simp
      refine (transpose_fine GA.out H5.out _ (fun _ => True) _ _ _ _ _ _ (KV.arr (H.out.old (HW.out.trans HO6.out)).any)).mono ?_
      rintro e w7 ⟨g0, g1, g2, g3, g4, g5, rfl, hk7, ho7⟩
      have HK7 := Lib.hid hk7
      have HO7 := Lib.hid ho7
      clear hk7 ho7
      refine hK.out _ _ (Til.mk (HB8.out.old (HO6.out.trans HO7.out))) (fun hC hS => ?_)
      clear hK K
      have hh := told_any GT.out _ _ _ _ _ _ _ _ _ _ _ _ _ _ _ HK7.out (HK.out.old (((Old.refl w5).alloc _).drew.trans (HO6.out.trans HO7.out)))
      have HH := Lib.hid hh
      clear hh
      refine AnyL.nxt 5 (by kernel_rfl) hC (fun o ho K hK => ?_)
      cases ho
      go_simp
      refine HH.out.mono ?_
      rintro e w8 ⟨rfl, ho8⟩
      have HO8 := Lib.hid ho8
      clear ho8
      refine hK.out _ _ (Til.late (by rfl)) (fun hC hS => ?_)
      clear hK K
      refine AnyL.take (i := 6) (v := .bool true) (some 2) (fun _ => True) rfl (by kernel_rfl) (by kernel_rfl) (by kernel_rfl) (fun _ _ _ h => h) (fun _ _ _ _ _ => trivial) (fun l w' => Til.set (by decide) l w') (fun _ ho => by cases ho; exact Or.inl ⟨by rfl, fun w' _ => by go_simp⟩) hC hS (fun hC hS => ?_)
      simp only [Act.put, List.setIfInBounds_toArray, List.set_cons_zero, List.set_cons_succ]
      refine AnyL.done (by kernel_rfl) ?_ _
      clear hC hS
      go_wp2
      go_ret
      exact ⟨rfl, HW.out.trans (HO6.out.trans (HO7.out.trans HO8.out))⟩
    · have H5 := Lib.hid h5
      clear h5
      go_enter Tryz.func3, Tryz.ntmps3
      go_wp2_with (first
        | (go_at_call 8; go_must (refine (larray_any _ _ _ _).mono ?_; rintro e w9 ⟨rfl, ho⟩; first | (have hq := HO3; clear hq; have HO4 := Lib.hid (HO3.out.trans ho); clear ho) | (have HO1 := Lib.hid ho; clear ho)))
        | (go_at_call 7; go_must (refine (fits_any HS.out (by simp) _ _ _ (one_list (KV.arr H.out) _ HO1.out) (HT.out.old (HO1.out.alloc _))).mono ?_; rintro e w3 ⟨b3, rfl, ho, hr⟩; have HO3 := Lib.hid ((HO1.out.alloc _).trans ho); have HG := Lib.hid hr; clear ho hr; cases b3))
        | (go_at_call 9; go_must (have hgg := (HG.out trivial (V.arr l) (by simp)).1; refine (call_tr hgg (good_list hgg).1 (fun r hr => (good_list ((good_list hgg).2 r hr)).1) _ (fun _ => True) A l.length c (H.out.old HO4.out).any (.inr ⟨H5.out, rfl, rfl⟩)).mono ?_; rintro e w5 ⟨g0, g1, g2, g3, g4, g5, rfl, hk, ho⟩; have HO5 := Lib.hid (HO4.out.trans ho); obtain ⟨E1, q1, r1, E2, q2, r2, E3, q3, r3, rfl, rfl, rfl, rfl, rfl, rfl⟩ := shape hk; obtain ⟨ke, hke⟩ : ∃ x, x = V.null.kind := ⟨_, rfl⟩; obtain ⟨fe, hfe⟩ : ∃ x, x = V.null.half := ⟨_, rfl⟩; obtain ⟨te, hte⟩ : ∃ x, x = V.null.text := ⟨_, rfl⟩; rw [← hke, ← hfe, ← hte] at hk ⊢; have HK := Lib.hid (KV.any hk); clear hk hke hfe hte ho hgg)))
      all_goals go_ret
      · exact ⟨rfl, HO3.out⟩
      · exact ⟨rfl, HO5.out.alloc _⟩
end Go.Proofs.YtpoanncombcemaaGreatDoor
