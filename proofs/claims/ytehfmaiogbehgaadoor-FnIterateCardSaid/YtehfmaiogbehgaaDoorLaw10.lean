/-
  An iterator over values gives each of them, in order, and then no more: the walk.
  Conditions: none.
-/
import Derived.Test.YtehfmaiogbehgaaDoorIterate
import Derived.Test.YtehfmaiogbehgaaDoorLaid
import Derived.Deep.DrawnRows
namespace Go.Proofs.YtehfmaiogbehgaaDoor
open Go.RowKit
attribute [local go_sem ↓] Go.wp_at_zero Go.wp_at_succ

theorem AnyL.nxt {P : Program} {ops : Array Oper} {Q : Exit → Act → World → Prop} {md : Region.Mode} {S : Array Bool → World → Prop} {fuel : Nat} {l : Array Bool} {a : Act} {w : World} (i : Nat) (hr : Region.ready md ops l = [i]) (hC : Closed md ops l)
    (h : ∀ o, ops[i]? = some o → ∀ K' : Act → World → Prop, Shut (∀ a w, S (l.setIfInBounds i true) w → (Closed md ops (l.setIfInBounds i true) → S (l.setIfInBounds i true) w → AnyL P md ops Q S fuel (l.setIfInBounds i true) a w) → K' a w) → if Region.wanted o (yielded ops a.tmps) = true then Oper.wp P o a w K' Q else K' (a.put o.dst undef) w) :
    AnyL P md ops Q S (fuel + 1) l a w := by
  have hi : i ∈ Region.ready md ops l := by rw [hr]; simp
  obtain ⟨_, o, ho, _⟩ := mem_ready.1 hi
  exact AnyL.one o hr ho hC (h o ho)
theorem KVs.any {w : World} {ok : Nat → Prop} {l : List V} {v : Value} (h : KVs w ok l v) : KVs w (fun _ => True) l v := by
  obtain ⟨C, s, r⟩ := h
  exact ⟨C, s.mono fun _ _ _ => trivial, fun i hi => (r i hi).any⟩
theorem KVs.old {w w' : World} {ok : Nat → Prop} {l : List V} {v : Value} (h : KVs w ok l v) (ho : Old w w') : KVs w' ok l v := by
  obtain ⟨C, s, r⟩ := h
  exact ⟨C, s.old ho, fun i hi => (r i hi).old ho⟩
theorem nth_take {l : List V} {n i : Nat} (h : i < n) : nth (l.take n) i = nth l i := by simp [nth, List.getD_eq_getElem?_getD, List.getElem?_take_of_lt h]

set_option maxHeartbeats 4000000 in
set_option maxRecDepth 100000 in
theorem law10_any {l : List V} (hz : ∀ x ∈ l, Sized x) (hl : l.length ≤ 9223372036854775807) (most : Int) (w : World) (ok : Nat → Prop) (v : Value) (h : KVs w ok l v) (hT : Tabs w) :
    Calls Tryd.prog 3 #[v, .int .i64 most] w (Yes w) := by
  have H := Lib.hid h
  have HT := Lib.hid hT
  have HZ := Lib.hid hz
  obtain ⟨C, s, _⟩ := h
  obtain ⟨A, c, rfl, hcap⟩ := s.len
  clear s hT hz
  by_cases hbig : (2147483647 : Int) < (l.length : Int)
  · go_enter Tryd.func3, Tryd.ntmps3
    go_wp2
    go_ret
    exact ⟨rfl, Old.refl w⟩
  · by_cases h200 : (200 : Int) < (l.length : Int)
    · go_enter Tryd.func3, Tryd.ntmps3
      go_wp2
      go_ret
      exact ⟨rfl, Old.refl w⟩
    · by_cases h0 : most < 0
      · go_enter Tryd.func3, Tryd.ntmps3
        go_wp2
        go_ret
        exact ⟨rfl, Old.refl w⟩
      · by_cases h400 : 400 < most
        · go_enter Tryd.func3, Tryd.ntmps3
          go_wp2
          go_ret
          exact ⟨rfl, Old.refl w⟩
        · obtain ⟨M, rfl⟩ : ∃ M : Nat, most = M := ⟨most.toNat, by omega⟩
          have hM : M ≤ 400 := by omega
          have hl2 : l.length ≤ 200 := by omega
          obtain ⟨n, hn⟩ : ∃ n, n = min l.length M := ⟨_, rfl⟩
          have HN := Lib.hid hn
          have hmin : min (l.length : Int) (M : Int) = (n : Int) := by omega
          have hnl : n ≤ l.length := by omega
          have HMN := Lib.hid hmin
          clear hn hmin hbig h200 h0 h400 hl
          by_cases hlm : l.length < M
          · go_enter Tryd.func3, Tryd.ntmps3
            go_wp2_with (first
              | (go_at_call 4; go_must (refine (fine_any HZ.out (by omega) _ ok _ H.out HT.out).mono ?_; rintro e w2 ⟨b2, rfl, ho, hg⟩; have HO2 := Lib.hid ho; have HG := Lib.hid hg; clear ho hg; cases b2))
              | (go_at_call 5; go_must (refine (iterate_any (fun x hx => (HG.out trivial x hx).1.1) hl2 M hM n HN.out _ ok _ (H.out.old HO2.out)).mono ?_; rintro e w5 ⟨A4, c4, u, rfl, hk, hu, ho⟩; obtain rfl := hu hlm; have HO5 := Lib.hid (HO2.out.trans ho); have HK := Lib.hid hk; have hmin := HMN.out; simp only [zero8]; clear hk  ho)))
            · go_ret
              exact ⟨rfl, HO2.out⟩
            clear hmin
            go_loopg [7] n (fun gk s7 wr => ∃ i, i + gk = n ∧ s7 = .int .i64 (i : Nat) ∧ Old (w5.alloc (.cells #[.slice A4 n c4, .int .i64 0, .int .i64 0, .int .i64 0, .string ⟨#[]⟩, .slice none 0 0, .slice none 0 0, .slice none 0 0] 29)) wr)
            case atStart => exact ⟨0, by simp, rfl, Old.refl _⟩
            case round =>
              obtain ⟨i, hi, rfl, R⟩ := hrel
              have R0 := Lib.hid R
              have HW := Lib.hid ((HO5.out.alloc _).trans R)
              by_cases hlt : i < n
              · have HA := HK.out.old (((Old.refl w5).alloc _).trans R)
                have hlen : (l.take n).length = n := by simp; omega
                obtain ⟨b1, o1, c0, c1, c2, c3, c4', c5, rfl, hb1, hk1, e0, e1, e2, e3, e4, e5⟩ := six HA i (by rw [hlen]; exact hlt)
                rw [nth_take hlt] at hk1
                obtain ⟨b2, o2, d0, d1, d2, d3, d4, d5, rfl, hb2, hk2, g0, g1, g2, g3, g4, g5⟩ := six (H.out.old HW.out) i (by omega)
                have hgd := (HG.out trivial (nth l i) (by rw [← nth_eq l i (by omega)]; exact List.getElem_mem (by omega))).1.1
                have GD := Lib.hid hgd
                obtain ⟨B1, p1, q1, B2, p2, q2, B3, p3, q3, rfl, rfl, rfl, rfl, rfl, rfl⟩ := shape hk1
                obtain ⟨D1, s1, t1, D2, s2, t2, D3, s3, t3, rfl, rfl, rfl, rfl, rfl, rfl⟩ := shape hk2
                obtain ⟨ka, hka⟩ : ∃ x, x = (nth l i).kind := ⟨_, rfl⟩
                obtain ⟨fa, hfa⟩ : ∃ x, x = (nth l i).half := ⟨_, rfl⟩
                obtain ⟨ta, hta⟩ : ∃ x, x = (nth l i).text := ⟨_, rfl⟩
                rw [← hka, ← hfa, ← hta] at hk1 hk2
                rw [← hka] at e0 g0
                rw [← hfa] at e1 g1
                rw [← hta] at e2 g2
                have HK1 := Lib.hid hk1
                have HK2 := Lib.hid hk2
                have E := Lib.hid (⟨e0, e1, e2, e3, e4, e5⟩ : _ ∧ _ ∧ _ ∧ _ ∧ _ ∧ _)
                have G := Lib.hid (⟨g0, g1, g2, g3, g4, g5⟩ : _ ∧ _ ∧ _ ∧ _ ∧ _ ∧ _)
                have zb : wr.cell? ⟨w5.heap.size, 0, none⟩ = some (.slice (some ⟨b1, o1, none⟩) n c4) := ((Blk.new w5 _ _).old R).cell 0
                have ZB := Lib.hid zb
                have HII := Lib.hid hi
                have hil : i < l.length := by omega
                clear HA hlen hk1 hk2 hgd hka hfa hta R e0 e1 e2 e3 e4 e5 g0 g1 g2 g3 g4 g5 zb hi
                go_upto_region 12 with (fail)
                have hOld : Old wr wr.drew := (Old.refl wr).drew
                refine AnyL.region 11 (S := Til 9 (fun w' => Old wr w')) rfl (by kernel_rfl) (fun hC => ?_)
                have hS : Til 9 (fun w' => Old wr w') (Array.replicate 11 false) wr.drew := Til.mk hOld
                clear hOld
                refine AnyL.take (i := 0) (v := .pointer (some ⟨w5.heap.size, 0, none⟩)) (some 55) (fun _ => True) rfl (by kernel_rfl) (by kernel_rfl) (by kernel_rfl) (fun _ _ _ h => h) (fun _ _ _ _ _ => trivial) (fun l w' => Til.set (by decide) l w') (fun _ ho => by cases ho; exact Or.inl ⟨by rfl, fun w' _ => by go_simp⟩) hC hS (fun hC hS => ?_)
                simp only [Act.put, List.setIfInBounds_toArray, List.set_cons_zero, List.set_cons_succ]
                refine AnyL.take (i := 1) (v := .slice (some ⟨b1, o1, none⟩) n c4) (some 56) (fun w' => Old wr w') rfl (by kernel_rfl) (by kernel_rfl) (by kernel_rfl) (fun _ _ _ h => h) (fun l w' hC hl hS => hS (hC.un (j := 9) (i := 4) (by kernel_rfl) (hC.un (j := 4) (i := 3) (by kernel_rfl) (hC.un (j := 3) (i := 1) (by kernel_rfl) hl)))) (fun l w' => Til.set (by decide) l w') (fun _ ho => by cases ho; exact Or.inl ⟨by rfl, fun w' hB => by have h0 := hB.cell ZB.out; go_simp⟩) hC hS (fun hC hS => ?_)
                simp only [Act.put, List.setIfInBounds_toArray, List.set_cons_zero, List.set_cons_succ]
                refine AnyL.take (i := 2) (v := .int .i64 (i : Nat)) (some 57) (fun _ => True) rfl (by kernel_rfl) (by kernel_rfl) (by kernel_rfl) (fun _ _ _ h => h) (fun _ _ _ _ _ => trivial) (fun l w' => Til.set (by decide) l w') (fun _ ho => by cases ho; exact Or.inl ⟨by rfl, fun w' _ => by go_simp⟩) hC hS (fun hC hS => ?_)
                simp only [Act.put, List.setIfInBounds_toArray, List.set_cons_zero, List.set_cons_succ]
                refine AnyL.take (i := 3) (v := .pointer (some ⟨b1, o1 + i * 6, none⟩)) (some 58) (fun _ => True) rfl (by kernel_rfl) (by kernel_rfl) (by kernel_rfl) (fun _ _ _ h => h) (fun _ _ _ _ _ => trivial) (fun l w' => Til.set (by decide) l w') (fun _ ho => by cases ho; exact Or.inl ⟨by rfl, fun w' _ => by go_simp⟩) hC hS (fun hC hS => ?_)
                simp only [Act.put, List.setIfInBounds_toArray, List.set_cons_zero, List.set_cons_succ]
                refine AnyL.take (i := 4) (v := .agg #[.int .i64 ka, .int .i64 fa, .string ta, .slice B1 p1 q1, .slice B2 p2 q2, .slice B3 p3 q3]) (some 59) (fun w' => Old wr w') rfl (by kernel_rfl) (by kernel_rfl) (by kernel_rfl) (fun _ _ _ h => h) (fun l w' hC hl hS => hS (hC.un (j := 9) (i := 4) (by kernel_rfl) hl)) (fun l w' => Til.set (by decide) l w') (fun _ ho => by cases ho; exact Or.inl ⟨by rfl, fun w' hB => by obtain ⟨a0, a1, a2, a3, a4, a5⟩ := E.out; have h0 := hB.cell a0; have h1 := hB.cell a1; have h2 := hB.cell a2; have h3 := hB.cell a3; have h4 := hB.cell a4; have h5 := hB.cell a5; clear a0 a1 a2 a3 a4 a5; go_simp⟩) hC hS (fun hC hS => ?_)
                simp only [Act.put, List.setIfInBounds_toArray, List.set_cons_zero, List.set_cons_succ]
                refine AnyL.take (i := 5) (v := .slice (some ⟨b2, o2, none⟩) l.length c) (some 60) (fun _ => True) rfl (by kernel_rfl) (by kernel_rfl) (by kernel_rfl) (fun _ _ _ h => h) (fun _ _ _ _ _ => trivial) (fun l w' => Til.set (by decide) l w') (fun _ ho => by cases ho; exact Or.inl ⟨by rfl, fun w' _ => by go_simp⟩) hC hS (fun hC hS => ?_)
                simp only [Act.put, List.setIfInBounds_toArray, List.set_cons_zero, List.set_cons_succ]
                refine AnyL.take (i := 6) (v := .int .i64 (i : Nat)) (some 61) (fun _ => True) rfl (by kernel_rfl) (by kernel_rfl) (by kernel_rfl) (fun _ _ _ h => h) (fun _ _ _ _ _ => trivial) (fun l w' => Til.set (by decide) l w') (fun _ ho => by cases ho; exact Or.inl ⟨by rfl, fun w' _ => by go_simp⟩) hC hS (fun hC hS => ?_)
                simp only [Act.put, List.setIfInBounds_toArray, List.set_cons_zero, List.set_cons_succ]
                refine AnyL.take (i := 7) (v := .pointer (some ⟨b2, o2 + i * 6, none⟩)) (some 62) (fun _ => True) rfl (by kernel_rfl) (by kernel_rfl) (by kernel_rfl) (fun _ _ _ h => h) (fun _ _ _ _ _ => trivial) (fun l w' => Til.set (by decide) l w') (fun _ ho => by cases ho; exact Or.inl ⟨by rfl, fun w' _ => by go_simp⟩) hC hS (fun hC hS => ?_)
                simp only [Act.put, List.setIfInBounds_toArray, List.set_cons_zero, List.set_cons_succ]
                refine AnyL.take (i := 8) (v := .agg #[.int .i64 ka, .int .i64 fa, .string ta, .slice D1 s1 t1, .slice D2 s2 t2, .slice D3 s3 t3]) (some 63) (fun w' => Old wr w') rfl (by kernel_rfl) (by kernel_rfl) (by kernel_rfl) (fun _ _ _ h => h) (fun l w' hC hl hS => hS (hC.un (j := 9) (i := 8) (by kernel_rfl) hl)) (fun l w' => Til.set (by decide) l w') (fun _ ho => by cases ho; exact Or.inl ⟨by rfl, fun w' hB => by obtain ⟨a0, a1, a2, a3, a4, a5⟩ := G.out; have h0 := hB.cell a0; have h1 := hB.cell a1; have h2 := hB.cell a2; have h3 := hB.cell a3; have h4 := hB.cell a4; have h5 := hB.cell a5; clear a0 a1 a2 a3 a4 a5; go_simp⟩) hC hS (fun hC hS => ?_)
                simp only [Act.put, List.setIfInBounds_toArray, List.set_cons_zero, List.set_cons_succ]
                have hsame := same_any GD.out wr.drew _ _ _ _ _ _ _ _ _ _ _ _ _ _ (HK1.out.old (Old.refl wr).drew) (HK2.out.old (Old.refl wr).drew)
                have HS := Lib.hid hsame
                clear hsame
                refine AnyL.nxt 9 (by kernel_rfl) hC (fun o ho K hK => ?_)
                cases ho
                go_simp
                refine HS.out.mono ?_
                rintro e w6 ⟨rfl, ho6⟩
                have HO6 := Lib.hid ho6
                clear ho6
                refine hK.out _ _ (Til.late (by rfl)) (fun hC hS => ?_)
                clear hK K
                refine AnyL.take (i := 10) (v := .bool false) (some 65) (fun _ => True) rfl (by kernel_rfl) (by kernel_rfl) (by kernel_rfl) (fun _ _ _ h => h) (fun _ _ _ _ _ => trivial) (fun l w' => Til.set (by decide) l w') (fun _ ho => by cases ho; exact Or.inl ⟨by rfl, fun w' _ => by go_simp⟩) hC hS (fun hC hS => ?_)
                simp only [Act.put, List.setIfInBounds_toArray, List.set_cons_zero, List.set_cons_succ]
                refine AnyL.done (by kernel_rfl) ?_ _
                clear hC hS
                go_wp2
                go_roundg (gk - 1)
                case measure => have := HII.out; omega
                case rel => exact ⟨i + 1, by have := HII.out; omega, by go_num, (R0.out.drew).trans HO6.out⟩
              · obtain rfl : i = n := by omega
                go_wp2
                go_ret
                exact ⟨rfl, HW.out⟩
          · go_enter Tryd.func3, Tryd.ntmps3
            go_wp2_with (first
              | (go_at_call 4; go_must (refine (fine_any HZ.out (by omega) _ ok _ H.out HT.out).mono ?_; rintro e w2 ⟨b2, rfl, ho, hg⟩; have HO2 := Lib.hid ho; have HG := Lib.hid hg; clear ho hg; cases b2))
              | (go_at_call 5; go_must (refine (iterate_any (fun x hx => (HG.out trivial x hx).1.1) hl2 M hM n HN.out _ ok _ (H.out.old HO2.out)).mono ?_; rintro e w5 ⟨A4, c4, u, rfl, hk, hu, ho⟩; have HO5 := Lib.hid (HO2.out.trans ho); have HK := Lib.hid hk; have hmin := HMN.out; simp only [zero8]; clear hk hu ho)))
            · go_ret
              exact ⟨rfl, HO2.out⟩
            clear hmin
            go_loopg [7] n (fun gk s7 wr => ∃ i, i + gk = n ∧ s7 = .int .i64 (i : Nat) ∧ Old (w5.alloc (.cells #[.slice A4 n c4, .int .i64 u, .int .i64 0, .int .i64 0, .string ⟨#[]⟩, .slice none 0 0, .slice none 0 0, .slice none 0 0] 29)) wr)
            case atStart => exact ⟨0, by simp, rfl, Old.refl _⟩
            case round =>
              obtain ⟨i, hi, rfl, R⟩ := hrel
              have R0 := Lib.hid R
              have HW := Lib.hid ((HO5.out.alloc _).trans R)
              by_cases hlt : i < n
              · have HA := HK.out.old (((Old.refl w5).alloc _).trans R)
                have hlen : (l.take n).length = n := by simp; omega
                obtain ⟨b1, o1, c0, c1, c2, c3, c4', c5, rfl, hb1, hk1, e0, e1, e2, e3, e4, e5⟩ := six HA i (by rw [hlen]; exact hlt)
                rw [nth_take hlt] at hk1
                obtain ⟨b2, o2, d0, d1, d2, d3, d4, d5, rfl, hb2, hk2, g0, g1, g2, g3, g4, g5⟩ := six (H.out.old HW.out) i (by omega)
                have hgd := (HG.out trivial (nth l i) (by rw [← nth_eq l i (by omega)]; exact List.getElem_mem (by omega))).1.1
                have GD := Lib.hid hgd
                obtain ⟨B1, p1, q1, B2, p2, q2, B3, p3, q3, rfl, rfl, rfl, rfl, rfl, rfl⟩ := shape hk1
                obtain ⟨D1, s1, t1, D2, s2, t2, D3, s3, t3, rfl, rfl, rfl, rfl, rfl, rfl⟩ := shape hk2
                obtain ⟨ka, hka⟩ : ∃ x, x = (nth l i).kind := ⟨_, rfl⟩
                obtain ⟨fa, hfa⟩ : ∃ x, x = (nth l i).half := ⟨_, rfl⟩
                obtain ⟨ta, hta⟩ : ∃ x, x = (nth l i).text := ⟨_, rfl⟩
                rw [← hka, ← hfa, ← hta] at hk1 hk2
                rw [← hka] at e0 g0
                rw [← hfa] at e1 g1
                rw [← hta] at e2 g2
                have HK1 := Lib.hid hk1
                have HK2 := Lib.hid hk2
                have E := Lib.hid (⟨e0, e1, e2, e3, e4, e5⟩ : _ ∧ _ ∧ _ ∧ _ ∧ _ ∧ _)
                have G := Lib.hid (⟨g0, g1, g2, g3, g4, g5⟩ : _ ∧ _ ∧ _ ∧ _ ∧ _ ∧ _)
                have zb : wr.cell? ⟨w5.heap.size, 0, none⟩ = some (.slice (some ⟨b1, o1, none⟩) n c4) := ((Blk.new w5 _ _).old R).cell 0
                have ZB := Lib.hid zb
                have HII := Lib.hid hi
                have hil : i < l.length := by omega
                clear HA hlen hk1 hk2 hgd hka hfa hta R e0 e1 e2 e3 e4 e5 g0 g1 g2 g3 g4 g5 zb hi
                go_upto_region 12 with (fail)
                have hOld : Old wr wr.drew := (Old.refl wr).drew
                refine AnyL.region 11 (S := Til 9 (fun w' => Old wr w')) rfl (by kernel_rfl) (fun hC => ?_)
                have hS : Til 9 (fun w' => Old wr w') (Array.replicate 11 false) wr.drew := Til.mk hOld
                clear hOld
                refine AnyL.take (i := 0) (v := .pointer (some ⟨w5.heap.size, 0, none⟩)) (some 55) (fun _ => True) rfl (by kernel_rfl) (by kernel_rfl) (by kernel_rfl) (fun _ _ _ h => h) (fun _ _ _ _ _ => trivial) (fun l w' => Til.set (by decide) l w') (fun _ ho => by cases ho; exact Or.inl ⟨by rfl, fun w' _ => by go_simp⟩) hC hS (fun hC hS => ?_)
                simp only [Act.put, List.setIfInBounds_toArray, List.set_cons_zero, List.set_cons_succ]
                refine AnyL.take (i := 1) (v := .slice (some ⟨b1, o1, none⟩) n c4) (some 56) (fun w' => Old wr w') rfl (by kernel_rfl) (by kernel_rfl) (by kernel_rfl) (fun _ _ _ h => h) (fun l w' hC hl hS => hS (hC.un (j := 9) (i := 4) (by kernel_rfl) (hC.un (j := 4) (i := 3) (by kernel_rfl) (hC.un (j := 3) (i := 1) (by kernel_rfl) hl)))) (fun l w' => Til.set (by decide) l w') (fun _ ho => by cases ho; exact Or.inl ⟨by rfl, fun w' hB => by have h0 := hB.cell ZB.out; go_simp⟩) hC hS (fun hC hS => ?_)
                simp only [Act.put, List.setIfInBounds_toArray, List.set_cons_zero, List.set_cons_succ]
                refine AnyL.take (i := 2) (v := .int .i64 (i : Nat)) (some 57) (fun _ => True) rfl (by kernel_rfl) (by kernel_rfl) (by kernel_rfl) (fun _ _ _ h => h) (fun _ _ _ _ _ => trivial) (fun l w' => Til.set (by decide) l w') (fun _ ho => by cases ho; exact Or.inl ⟨by rfl, fun w' _ => by go_simp⟩) hC hS (fun hC hS => ?_)
                simp only [Act.put, List.setIfInBounds_toArray, List.set_cons_zero, List.set_cons_succ]
                refine AnyL.take (i := 3) (v := .pointer (some ⟨b1, o1 + i * 6, none⟩)) (some 58) (fun _ => True) rfl (by kernel_rfl) (by kernel_rfl) (by kernel_rfl) (fun _ _ _ h => h) (fun _ _ _ _ _ => trivial) (fun l w' => Til.set (by decide) l w') (fun _ ho => by cases ho; exact Or.inl ⟨by rfl, fun w' _ => by go_simp⟩) hC hS (fun hC hS => ?_)
                simp only [Act.put, List.setIfInBounds_toArray, List.set_cons_zero, List.set_cons_succ]
                refine AnyL.take (i := 4) (v := .agg #[.int .i64 ka, .int .i64 fa, .string ta, .slice B1 p1 q1, .slice B2 p2 q2, .slice B3 p3 q3]) (some 59) (fun w' => Old wr w') rfl (by kernel_rfl) (by kernel_rfl) (by kernel_rfl) (fun _ _ _ h => h) (fun l w' hC hl hS => hS (hC.un (j := 9) (i := 4) (by kernel_rfl) hl)) (fun l w' => Til.set (by decide) l w') (fun _ ho => by cases ho; exact Or.inl ⟨by rfl, fun w' hB => by obtain ⟨a0, a1, a2, a3, a4, a5⟩ := E.out; have h0 := hB.cell a0; have h1 := hB.cell a1; have h2 := hB.cell a2; have h3 := hB.cell a3; have h4 := hB.cell a4; have h5 := hB.cell a5; clear a0 a1 a2 a3 a4 a5; go_simp⟩) hC hS (fun hC hS => ?_)
                simp only [Act.put, List.setIfInBounds_toArray, List.set_cons_zero, List.set_cons_succ]
                refine AnyL.take (i := 5) (v := .slice (some ⟨b2, o2, none⟩) l.length c) (some 60) (fun _ => True) rfl (by kernel_rfl) (by kernel_rfl) (by kernel_rfl) (fun _ _ _ h => h) (fun _ _ _ _ _ => trivial) (fun l w' => Til.set (by decide) l w') (fun _ ho => by cases ho; exact Or.inl ⟨by rfl, fun w' _ => by go_simp⟩) hC hS (fun hC hS => ?_)
                simp only [Act.put, List.setIfInBounds_toArray, List.set_cons_zero, List.set_cons_succ]
                refine AnyL.take (i := 6) (v := .int .i64 (i : Nat)) (some 61) (fun _ => True) rfl (by kernel_rfl) (by kernel_rfl) (by kernel_rfl) (fun _ _ _ h => h) (fun _ _ _ _ _ => trivial) (fun l w' => Til.set (by decide) l w') (fun _ ho => by cases ho; exact Or.inl ⟨by rfl, fun w' _ => by go_simp⟩) hC hS (fun hC hS => ?_)
                simp only [Act.put, List.setIfInBounds_toArray, List.set_cons_zero, List.set_cons_succ]
                refine AnyL.take (i := 7) (v := .pointer (some ⟨b2, o2 + i * 6, none⟩)) (some 62) (fun _ => True) rfl (by kernel_rfl) (by kernel_rfl) (by kernel_rfl) (fun _ _ _ h => h) (fun _ _ _ _ _ => trivial) (fun l w' => Til.set (by decide) l w') (fun _ ho => by cases ho; exact Or.inl ⟨by rfl, fun w' _ => by go_simp⟩) hC hS (fun hC hS => ?_)
                simp only [Act.put, List.setIfInBounds_toArray, List.set_cons_zero, List.set_cons_succ]
                refine AnyL.take (i := 8) (v := .agg #[.int .i64 ka, .int .i64 fa, .string ta, .slice D1 s1 t1, .slice D2 s2 t2, .slice D3 s3 t3]) (some 63) (fun w' => Old wr w') rfl (by kernel_rfl) (by kernel_rfl) (by kernel_rfl) (fun _ _ _ h => h) (fun l w' hC hl hS => hS (hC.un (j := 9) (i := 8) (by kernel_rfl) hl)) (fun l w' => Til.set (by decide) l w') (fun _ ho => by cases ho; exact Or.inl ⟨by rfl, fun w' hB => by obtain ⟨a0, a1, a2, a3, a4, a5⟩ := G.out; have h0 := hB.cell a0; have h1 := hB.cell a1; have h2 := hB.cell a2; have h3 := hB.cell a3; have h4 := hB.cell a4; have h5 := hB.cell a5; clear a0 a1 a2 a3 a4 a5; go_simp⟩) hC hS (fun hC hS => ?_)
                simp only [Act.put, List.setIfInBounds_toArray, List.set_cons_zero, List.set_cons_succ]
                have hsame := same_any GD.out wr.drew _ _ _ _ _ _ _ _ _ _ _ _ _ _ (HK1.out.old (Old.refl wr).drew) (HK2.out.old (Old.refl wr).drew)
                have HS := Lib.hid hsame
                clear hsame
                refine AnyL.nxt 9 (by kernel_rfl) hC (fun o ho K hK => ?_)
                cases ho
                go_simp
                refine HS.out.mono ?_
                rintro e w6 ⟨rfl, ho6⟩
                have HO6 := Lib.hid ho6
                clear ho6
                refine hK.out _ _ (Til.late (by rfl)) (fun hC hS => ?_)
                clear hK K
                refine AnyL.take (i := 10) (v := .bool false) (some 65) (fun _ => True) rfl (by kernel_rfl) (by kernel_rfl) (by kernel_rfl) (fun _ _ _ h => h) (fun _ _ _ _ _ => trivial) (fun l w' => Til.set (by decide) l w') (fun _ ho => by cases ho; exact Or.inl ⟨by rfl, fun w' _ => by go_simp⟩) hC hS (fun hC hS => ?_)
                simp only [Act.put, List.setIfInBounds_toArray, List.set_cons_zero, List.set_cons_succ]
                refine AnyL.done (by kernel_rfl) ?_ _
                clear hC hS
                go_wp2
                go_roundg (gk - 1)
                case measure => have := HII.out; omega
                case rel => exact ⟨i + 1, by have := HII.out; omega, by go_num, (R0.out.drew).trans HO6.out⟩
              · obtain rfl : i = n := by omega
                go_wp2
                go_ret
                exact ⟨rfl, HW.out⟩
end Go.Proofs.YtehfmaiogbehgaaDoor
