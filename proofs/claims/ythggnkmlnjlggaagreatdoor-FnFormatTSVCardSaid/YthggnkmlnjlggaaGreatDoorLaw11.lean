/-
  @tsv is the elements of an array with tabs between; a newline, a return, a tab and a backslash are escaped: the walk.
  Conditions: none.
-/
import Derived.Test.YthggnkmlnjlggaaGreatDoorAll
import Derived.Test.YthggnkmlnjlggaaGreatDoorLaid
import Derived.Deep.DrawnRows
namespace Go.Proofs.YthggnkmlnjlggaaGreatDoor
open Go.RowKit
attribute [local go_sem ↓] Go.wp_at_zero Go.wp_at_succ

theorem one_list {w : World} {ok : Nat → Prop} {a : V} {c0 c1 c2 c3 c4 c5 : Value} (h : KV w ok a [c0, c1, c2, c3, c4, c5]) (W : World) (hW : Old w W) :
    KVs (W.alloc (.cells #[c0, c1, c2, c3, c4, c5] 26)) (fun _ => True) [a] (.slice (some ⟨W.heap.size, 0, none⟩) 1 1) := by
  refine ⟨fun _ => [c0, c1, c2, c3, c4, c5], ⟨_, _, rfl, Nat.le_refl _, (fun h => by (cases h)), fun _ => ⟨W.heap.size, 0, _, _, _, rfl, trivial, Blk.new W _ _, fun i hi => ⟨rfl, fun j hj => ?_⟩⟩⟩, fun i hi => ?_⟩
  · obtain rfl : i = 0 := by simpa using hi
    match j, hj with
    | 0, _ => rfl
    | 1, _ => rfl
    | 2, _ => rfl
    | 3, _ => rfl
    | 4, _ => rfl
    | 5, _ => rfl
  · obtain rfl : i = 0 := by simpa using hi
    exact ((h.old hW).old ((Old.refl W).alloc _)).mono fun _ _ _ => trivial
set_option maxHeartbeats 16000000 in
set_option maxRecDepth 100000 in
theorem law11_text {a : V} (ha : Sized a) (hP : a.kind = 5 ∧ ∀ x ∈ a.list, x.kind ≤ 4) (w : World) (ok : Nat → Prop) (c0 c1 c2 c3 c4 c5 : Value) (hc : KV w ok a [c0, c1, c2, c3, c4, c5]) (hT : Tabs w) :
    Calls Tryz.prog 3 #[.agg #[c0, c1, c2, c3, c4, c5]] w (Yes w) := by
  obtain ⟨A1, n1, m1, A2, n2, m2, A3, n3, m3, rfl, rfl, rfl, rfl, rfl, rfl⟩ := shape hc
  have C := Lib.hid hc
  have HT := Lib.hid hT
  have HA := Lib.hid ha
  have HP := Lib.hid hP
  have hsz : ∀ x ∈ [a], Sized x := fun x hx => by
    obtain rfl := List.mem_singleton.1 hx
    exact ha
  have HS := Lib.hid hsz
  obtain ⟨ka, hka⟩ : ∃ x, x = a.kind := ⟨_, rfl⟩
  obtain ⟨fa, hfa⟩ : ∃ x, x = a.half := ⟨_, rfl⟩
  obtain ⟨ta, hta⟩ : ∃ x, x = a.text := ⟨_, rfl⟩
  rw [← hka, ← hfa, ← hta] at C ⊢
  have HO := Lib.hid ((Old.refl w).alloc (.cells #[.int .i64 ka, .int .i64 fa, .string ta, .slice A1 n1 m1, .slice A2 n2 m2, .slice A3 n3 m3] 26))
  have BA := Lib.hid (Blk.new w #[.int .i64 ka, .int .i64 fa, .string ta, .slice A1 n1 m1, .slice A2 n2 m2, .slice A3 n3 m3] 26)
  clear hc hT ha hka hfa hta hsz hP
  go_enter Tryz.func3, Tryz.ntmps3
  go_upto_region 3 with (go_at_call 5; go_must (refine (fits1_any a HA.out _ ok _ _ _ _ _ _ (C.out.old HO.out)).mono ?_; rintro e w1 ⟨b1, rfl, ho1, _⟩; have HO1 := Lib.hid (HO.out.trans ho1); have bA := BA.out.old ho1; have BA1 := Lib.hid bA; have x0 : w1.cell? ⟨w.heap.size, 0, none⟩ = some (.int .i64 ka) := bA.cell 0; have x1 : w1.cell? ⟨w.heap.size, 1, none⟩ = some (.int .i64 fa) := bA.cell 1; have x2 : w1.cell? ⟨w.heap.size, 2, none⟩ = some (.string ta) := bA.cell 2; have x3 : w1.cell? ⟨w.heap.size, 3, none⟩ = some (.slice A1 n1 m1) := bA.cell 3; have x4 : w1.cell? ⟨w.heap.size, 4, none⟩ = some (.slice A2 n2 m2) := bA.cell 4; have x5 : w1.cell? ⟨w.heap.size, 5, none⟩ = some (.slice A3 n3 m3) := bA.cell 5; have xl := bA.lt; clear bA ho1; cases b1))
  · go_ret
    exact ⟨rfl, HO1.out⟩
  · have hB0 : Blk w1.drew w.heap.size #[.int .i64 ka, .int .i64 fa, .string ta, .slice A1 n1 m1, .slice A2 n2 m2, .slice A3 n3 m3] 26 := BA1.out.drew
    refine AnyL.region 11 (S := Til 8 (fun w' => Blk w' w.heap.size #[.int .i64 ka, .int .i64 fa, .string ta, .slice A1 n1 m1, .slice A2 n2 m2, .slice A3 n3 m3] 26)) rfl (by kernel_rfl) (fun hC => ?_)
    refine AnyL.nxt 0 (by kernel_rfl) hC (fun o ho K hK => ?_)
    cases ho
    go_simp
    refine hK.out _ _ (Til.mk hB0) (fun hC hS => ?_)
    clear hK K
    refine AnyL.nxt 1 (by kernel_rfl) hC (fun o ho K hK => ?_)
    cases ho
    go_simp
    refine hK.out _ _ (Til.mk (hB0.alloc _)) (fun hC hS => ?_)
    clear hK K
    refine AnyL.nxt 2 (by kernel_rfl) hC (fun o ho K hK => ?_)
    cases ho
    go_simp
    refine (fine_any HS.out (by simp) _ _ _ (one_list C.out _ HO1.out.drew) (HT.out.old (HO1.out.drew.alloc _))).mono ?_
    rintro e w2 ⟨b2, rfl, ho2, hg2⟩
    have ho2b := (((Old.refl w1).drew).alloc _).trans ho2
    have HO2 := Lib.hid (HO1.out.trans ho2b)
    have HG := Lib.hid hg2
    have bB := BA1.out.old ho2b
    have BA2 := Lib.hid bB
    clear x0 x1 x2 x3 x4 x5 xl
    have y0 : w2.cell? ⟨w.heap.size, 0, none⟩ = some (.int .i64 ka) := bB.cell 0; have y1 : w2.cell? ⟨w.heap.size, 1, none⟩ = some (.int .i64 fa) := bB.cell 1; have y2 : w2.cell? ⟨w.heap.size, 2, none⟩ = some (.string ta) := bB.cell 2; have y3 : w2.cell? ⟨w.heap.size, 3, none⟩ = some (.slice A1 n1 m1) := bB.cell 3; have y4 : w2.cell? ⟨w.heap.size, 4, none⟩ = some (.slice A2 n2 m2) := bB.cell 4; have y5 : w2.cell? ⟨w.heap.size, 5, none⟩ = some (.slice A3 n3 m3) := bB.cell 5; have yl := bB.lt
    clear bB ho2 ho2b hg2 hB0 hS
    cases b2
    all_goals
      refine hK.out _ _ (Til.mk BA2.out) (fun hC hS => ?_)
      clear hK K
      refine AnyL.nxt 3 (by kernel_rfl) hC (fun o ho K hK => ?_)
      cases ho
      go_simp
      refine hK.out _ _ (Til.mk BA2.out) (fun hC hS => ?_)
      clear hK K
      refine AnyL.nxt 4 (by kernel_rfl) hC (fun o ho K hK => ?_)
      cases ho
      go_simp
      refine hK.out _ _ (Til.mk BA2.out) (fun hC hS => ?_)
      clear hK K
    · skip
      refine AnyL.take (i := 7) (v := undef) (some 13) (fun w' => Blk w' w.heap.size #[.int .i64 ka, .int .i64 fa, .string ta, .slice A1 n1 m1, .slice A2 n2 m2, .slice A3 n3 m3] 26) rfl (by kernel_rfl) (by kernel_rfl) (by kernel_rfl) (fun _ _ _ h => h) (fun l w' hC hl hS => hS (hC.un (j := 8) (i := 7) (by kernel_rfl) hl)) (fun l w' => Til.set (by decide) l w') (fun _ ho => by cases ho; exact Or.inr ⟨by rfl, rfl⟩) hC hS (fun hC hS => ?_)
      refine AnyL.nxt 5 (by kernel_rfl) hC (fun o ho K hK => ?_)
      cases ho
      go_simp
      refine hK.out _ _ (Til.mk BA2.out) (fun hC hS => ?_)
      clear hK K
      refine AnyL.nxt 6 (by kernel_rfl) hC (fun o ho K hK => ?_)
      cases ho
      go_simp
      refine hK.out _ _ (Til.mk BA2.out) (fun hC hS => ?_)
      clear hK K
      refine AnyL.nxt 8 (by kernel_rfl) hC (fun o ho K hK => ?_)
      cases ho
      go_simp
      refine hK.out _ _ (Til.late (by rfl)) (fun hC hS => ?_)
      clear hK K
      refine AnyL.nxt 9 (by kernel_rfl) hC (fun o ho K hK => ?_)
      cases ho
      go_simp
      refine hK.out _ _ (Til.late (by rfl)) (fun hC hS => ?_)
      clear hK K
      refine AnyL.nxt 10 (by kernel_rfl) hC (fun o ho K hK => ?_)
      cases ho
      go_simp
      refine hK.out _ _ (Til.late (by rfl)) (fun hC hS => ?_)
      clear hK K
      refine AnyL.done (by kernel_rfl) ?_ _
      clear hC hS
      go_wp2
      go_ret
      exact ⟨rfl, HO2.out⟩
    · skip
      refine AnyL.take (i := 7) (v := .agg #[.int .i64 ka, .int .i64 fa, .string ta, .slice A1 n1 m1, .slice A2 n2 m2, .slice A3 n3 m3]) (some 13) (fun w' => Blk w' w.heap.size #[.int .i64 ka, .int .i64 fa, .string ta, .slice A1 n1 m1, .slice A2 n2 m2, .slice A3 n3 m3] 26) rfl (by kernel_rfl) (by kernel_rfl) (by kernel_rfl) (fun _ _ _ h => h) (fun l w' hC hl hS => hS (hC.un (j := 8) (i := 7) (by kernel_rfl) hl)) (fun l w' => Til.set (by decide) l w') (fun _ ho => by cases ho; exact Or.inl ⟨by rfl, fun w' hB => by have h0 := hB.cell 0; have h1 := hB.cell 1; have h2 := hB.cell 2; have h3 := hB.cell 3; have h4 := hB.cell 4; have h5 := hB.cell 5; go_simp⟩) hC hS (fun hC hS => ?_)
      refine AnyL.nxt 5 (by kernel_rfl) hC (fun o ho K hK => ?_)
      cases ho
      go_simp
      refine hK.out _ _ (Til.mk BA2.out) (fun hC hS => ?_)
      clear hK K
      refine AnyL.nxt 6 (by kernel_rfl) hC (fun o ho K hK => ?_)
      cases ho
      go_simp
      refine (tsv_text (HG.out rfl a (by simp)).1 HP.out.1 HP.out.2 _ ok _ _ _ _ _ _ (C.out.old HO2.out)).mono ?_
      rintro e w3 ⟨rfl, ho3⟩
      have HO3 := Lib.hid (HO2.out.trans ho3)
      have BA3 := Lib.hid (BA2.out.old ho3)
      clear ho3
      refine hK.out _ _ (Til.mk BA3.out) (fun hC hS => ?_)
      clear hK K
      refine AnyL.nxt 8 (by kernel_rfl) hC (fun o ho K hK => ?_)
      cases ho
      go_simp
      refine (formatted_text (HG.out rfl a (by simp)).1 _ ⟨HP.out.1, HP.out.2, rfl⟩ _ ok _ _ _ _ _ _ (C.out.old HO3.out)).mono ?_
      rintro e w4 ⟨rfl, ho4⟩
      have HO4 := Lib.hid (HO3.out.trans ho4)
      clear ho4
      refine hK.out _ _ (Til.late (by rfl)) (fun hC hS => ?_)
      clear hK K
      refine AnyL.nxt 9 (by kernel_rfl) hC (fun o ho K hK => ?_)
      cases ho
      go_simp
      refine hK.out _ _ (Til.late (by rfl)) (fun hC hS => ?_)
      clear hK K
      refine AnyL.nxt 10 (by kernel_rfl) hC (fun o ho K hK => ?_)
      cases ho
      go_simp
      refine hK.out _ _ (Til.late (by rfl)) (fun hC hS => ?_)
      clear hK K
      refine AnyL.done (by kernel_rfl) ?_ _
      clear hC hS
      go_wp2
      go_ret
      exact ⟨rfl, HO4.out⟩
set_option maxHeartbeats 16000000 in
set_option maxRecDepth 100000 in
theorem law11_err {a : V} (ha : Sized a) (hP : a.kind = 5 → ∃ x ∈ a.list, 5 ≤ x.kind) (w : World) (ok : Nat → Prop) (c0 c1 c2 c3 c4 c5 : Value) (hc : KV w ok a [c0, c1, c2, c3, c4, c5]) (hT : Tabs w) :
    Calls Tryz.prog 3 #[.agg #[c0, c1, c2, c3, c4, c5]] w (Yes w) := by
  obtain ⟨A1, n1, m1, A2, n2, m2, A3, n3, m3, rfl, rfl, rfl, rfl, rfl, rfl⟩ := shape hc
  have C := Lib.hid hc
  have HT := Lib.hid hT
  have HA := Lib.hid ha
  have HP := Lib.hid hP
  have hsz : ∀ x ∈ [a], Sized x := fun x hx => by
    obtain rfl := List.mem_singleton.1 hx
    exact ha
  have HS := Lib.hid hsz
  obtain ⟨ka, hka⟩ : ∃ x, x = a.kind := ⟨_, rfl⟩
  obtain ⟨fa, hfa⟩ : ∃ x, x = a.half := ⟨_, rfl⟩
  obtain ⟨ta, hta⟩ : ∃ x, x = a.text := ⟨_, rfl⟩
  rw [← hka, ← hfa, ← hta] at C ⊢
  have HO := Lib.hid ((Old.refl w).alloc (.cells #[.int .i64 ka, .int .i64 fa, .string ta, .slice A1 n1 m1, .slice A2 n2 m2, .slice A3 n3 m3] 26))
  have BA := Lib.hid (Blk.new w #[.int .i64 ka, .int .i64 fa, .string ta, .slice A1 n1 m1, .slice A2 n2 m2, .slice A3 n3 m3] 26)
  clear hc hT ha hka hfa hta hsz hP
  go_enter Tryz.func3, Tryz.ntmps3
  go_upto_region 3 with (go_at_call 5; go_must (refine (fits1_any a HA.out _ ok _ _ _ _ _ _ (C.out.old HO.out)).mono ?_; rintro e w1 ⟨b1, rfl, ho1, _⟩; have HO1 := Lib.hid (HO.out.trans ho1); have bA := BA.out.old ho1; have BA1 := Lib.hid bA; have x0 : w1.cell? ⟨w.heap.size, 0, none⟩ = some (.int .i64 ka) := bA.cell 0; have x1 : w1.cell? ⟨w.heap.size, 1, none⟩ = some (.int .i64 fa) := bA.cell 1; have x2 : w1.cell? ⟨w.heap.size, 2, none⟩ = some (.string ta) := bA.cell 2; have x3 : w1.cell? ⟨w.heap.size, 3, none⟩ = some (.slice A1 n1 m1) := bA.cell 3; have x4 : w1.cell? ⟨w.heap.size, 4, none⟩ = some (.slice A2 n2 m2) := bA.cell 4; have x5 : w1.cell? ⟨w.heap.size, 5, none⟩ = some (.slice A3 n3 m3) := bA.cell 5; have xl := bA.lt; clear bA ho1; cases b1))
  · go_ret
    exact ⟨rfl, HO1.out⟩
  · have hB0 : Blk w1.drew w.heap.size #[.int .i64 ka, .int .i64 fa, .string ta, .slice A1 n1 m1, .slice A2 n2 m2, .slice A3 n3 m3] 26 := BA1.out.drew
    refine AnyL.region 11 (S := Til 8 (fun w' => Blk w' w.heap.size #[.int .i64 ka, .int .i64 fa, .string ta, .slice A1 n1 m1, .slice A2 n2 m2, .slice A3 n3 m3] 26)) rfl (by kernel_rfl) (fun hC => ?_)
    refine AnyL.nxt 0 (by kernel_rfl) hC (fun o ho K hK => ?_)
    cases ho
    go_simp
    refine hK.out _ _ (Til.mk hB0) (fun hC hS => ?_)
    clear hK K
    refine AnyL.nxt 1 (by kernel_rfl) hC (fun o ho K hK => ?_)
    cases ho
    go_simp
    refine hK.out _ _ (Til.mk (hB0.alloc _)) (fun hC hS => ?_)
    clear hK K
    refine AnyL.nxt 2 (by kernel_rfl) hC (fun o ho K hK => ?_)
    cases ho
    go_simp
    refine (fine_any HS.out (by simp) _ _ _ (one_list C.out _ HO1.out.drew) (HT.out.old (HO1.out.drew.alloc _))).mono ?_
    rintro e w2 ⟨b2, rfl, ho2, hg2⟩
    have ho2b := (((Old.refl w1).drew).alloc _).trans ho2
    have HO2 := Lib.hid (HO1.out.trans ho2b)
    have HG := Lib.hid hg2
    have bB := BA1.out.old ho2b
    have BA2 := Lib.hid bB
    clear x0 x1 x2 x3 x4 x5 xl
    have y0 : w2.cell? ⟨w.heap.size, 0, none⟩ = some (.int .i64 ka) := bB.cell 0; have y1 : w2.cell? ⟨w.heap.size, 1, none⟩ = some (.int .i64 fa) := bB.cell 1; have y2 : w2.cell? ⟨w.heap.size, 2, none⟩ = some (.string ta) := bB.cell 2; have y3 : w2.cell? ⟨w.heap.size, 3, none⟩ = some (.slice A1 n1 m1) := bB.cell 3; have y4 : w2.cell? ⟨w.heap.size, 4, none⟩ = some (.slice A2 n2 m2) := bB.cell 4; have y5 : w2.cell? ⟨w.heap.size, 5, none⟩ = some (.slice A3 n3 m3) := bB.cell 5; have yl := bB.lt
    clear bB ho2 ho2b hg2 hB0 hS
    cases b2
    all_goals
      refine hK.out _ _ (Til.mk BA2.out) (fun hC hS => ?_)
      clear hK K
      refine AnyL.nxt 3 (by kernel_rfl) hC (fun o ho K hK => ?_)
      cases ho
      go_simp
      refine hK.out _ _ (Til.mk BA2.out) (fun hC hS => ?_)
      clear hK K
      refine AnyL.nxt 4 (by kernel_rfl) hC (fun o ho K hK => ?_)
      cases ho
      go_simp
      refine hK.out _ _ (Til.mk BA2.out) (fun hC hS => ?_)
      clear hK K
    · skip
      refine AnyL.take (i := 7) (v := undef) (some 13) (fun w' => Blk w' w.heap.size #[.int .i64 ka, .int .i64 fa, .string ta, .slice A1 n1 m1, .slice A2 n2 m2, .slice A3 n3 m3] 26) rfl (by kernel_rfl) (by kernel_rfl) (by kernel_rfl) (fun _ _ _ h => h) (fun l w' hC hl hS => hS (hC.un (j := 8) (i := 7) (by kernel_rfl) hl)) (fun l w' => Til.set (by decide) l w') (fun _ ho => by cases ho; exact Or.inr ⟨by rfl, rfl⟩) hC hS (fun hC hS => ?_)
      refine AnyL.nxt 5 (by kernel_rfl) hC (fun o ho K hK => ?_)
      cases ho
      go_simp
      refine hK.out _ _ (Til.mk BA2.out) (fun hC hS => ?_)
      clear hK K
      refine AnyL.nxt 6 (by kernel_rfl) hC (fun o ho K hK => ?_)
      cases ho
      go_simp
      refine hK.out _ _ (Til.mk BA2.out) (fun hC hS => ?_)
      clear hK K
      refine AnyL.nxt 8 (by kernel_rfl) hC (fun o ho K hK => ?_)
      cases ho
      go_simp
      refine hK.out _ _ (Til.late (by rfl)) (fun hC hS => ?_)
      clear hK K
      refine AnyL.nxt 9 (by kernel_rfl) hC (fun o ho K hK => ?_)
      cases ho
      go_simp
      refine hK.out _ _ (Til.late (by rfl)) (fun hC hS => ?_)
      clear hK K
      refine AnyL.nxt 10 (by kernel_rfl) hC (fun o ho K hK => ?_)
      cases ho
      go_simp
      refine hK.out _ _ (Til.late (by rfl)) (fun hC hS => ?_)
      clear hK K
      refine AnyL.done (by kernel_rfl) ?_ _
      clear hC hS
      go_wp2
      go_ret
      exact ⟨rfl, HO2.out⟩
    · skip
      refine AnyL.take (i := 7) (v := .agg #[.int .i64 ka, .int .i64 fa, .string ta, .slice A1 n1 m1, .slice A2 n2 m2, .slice A3 n3 m3]) (some 13) (fun w' => Blk w' w.heap.size #[.int .i64 ka, .int .i64 fa, .string ta, .slice A1 n1 m1, .slice A2 n2 m2, .slice A3 n3 m3] 26) rfl (by kernel_rfl) (by kernel_rfl) (by kernel_rfl) (fun _ _ _ h => h) (fun l w' hC hl hS => hS (hC.un (j := 8) (i := 7) (by kernel_rfl) hl)) (fun l w' => Til.set (by decide) l w') (fun _ ho => by cases ho; exact Or.inl ⟨by rfl, fun w' hB => by have h0 := hB.cell 0; have h1 := hB.cell 1; have h2 := hB.cell 2; have h3 := hB.cell 3; have h4 := hB.cell 4; have h5 := hB.cell 5; go_simp⟩) hC hS (fun hC hS => ?_)
      refine AnyL.nxt 5 (by kernel_rfl) hC (fun o ho K hK => ?_)
      cases ho
      go_simp
      refine hK.out _ _ (Til.mk BA2.out) (fun hC hS => ?_)
      clear hK K
      refine AnyL.nxt 6 (by kernel_rfl) hC (fun o ho K hK => ?_)
      cases ho
      go_simp
      refine (tsv_error (HG.out rfl a (by simp)).1 HP.out _ ok _ _ _ _ _ _ (C.out.old HO2.out)).mono ?_
      rintro e w3 ⟨rfl, ho3⟩
      have HO3 := Lib.hid (HO2.out.trans ho3)
      have BA3 := Lib.hid (BA2.out.old ho3)
      clear ho3
      refine hK.out _ _ (Til.mk BA3.out) (fun hC hS => ?_)
      clear hK K
      refine AnyL.nxt 8 (by kernel_rfl) hC (fun o ho K hK => ?_)
      cases ho
      go_simp
      refine (formatted_err (HG.out rfl a (by simp)).1 HP.out _ ok _ _ _ _ _ _ (C.out.old HO3.out)).mono ?_
      rintro e w4 ⟨rfl, ho4⟩
      have HO4 := Lib.hid (HO3.out.trans ho4)
      clear ho4
      refine hK.out _ _ (Til.late (by rfl)) (fun hC hS => ?_)
      clear hK K
      refine AnyL.nxt 9 (by kernel_rfl) hC (fun o ho K hK => ?_)
      cases ho
      go_simp
      refine hK.out _ _ (Til.late (by rfl)) (fun hC hS => ?_)
      clear hK K
      refine AnyL.nxt 10 (by kernel_rfl) hC (fun o ho K hK => ?_)
      cases ho
      go_simp
      refine hK.out _ _ (Til.late (by rfl)) (fun hC hS => ?_)
      clear hK K
      refine AnyL.done (by kernel_rfl) ?_ _
      clear hC hS
      go_wp2
      go_ret
      exact ⟨rfl, HO4.out⟩
theorem law11_any {a : V} (ha : Sized a) (w : World) (ok : Nat → Prop) (c0 c1 c2 c3 c4 c5 : Value) (hc : KV w ok a [c0, c1, c2, c3, c4, c5]) (hT : Tabs w) :
    Calls Tryz.prog 3 #[.agg #[c0, c1, c2, c3, c4, c5]] w (Yes w) := by
  by_cases hP : a.kind = 5 ∧ ∀ x ∈ a.list, x.kind ≤ 4
  · exact law11_text ha hP w ok _ _ _ _ _ _ hc hT
  · refine law11_err ha (fun h5 => ?_) w ok _ _ _ _ _ _ hc hT
    refine Classical.byContradiction fun hno => hP ⟨h5, fun x hx => ?_⟩
    refine Int.not_lt.1 fun hlt => hno ⟨x, hx, by omega⟩
end Go.Proofs.YthggnkmlnjlggaaGreatDoor
