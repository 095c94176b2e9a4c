/-
  Explode is a text's code points, in order, and an error for all else: the walk.
  Conditions: none.
-/
import Derived.Test.YtpoanncombcemaaDoorLaw6a
namespace Go.Proofs.YtpoanncombcemaaDoor
open Go.RowKit
attribute [local go_sem ↓] Go.wp_at_zero Go.wp_at_succ

theorem AnyL.nxt {P : Program} {ops : Array Oper} {Q : Exit → Act → World → Prop} {md : Region.Mode} {S : Array Bool → World → Prop} {fuel : Nat} {l : Array Bool} {a : Act} {w : World} (i : Nat) (hr : Region.ready md ops l = [i]) (hC : Closed md ops l)
    (h : ∀ o, ops[i]? = some o → ∀ K' : Act → World → Prop, Shut (∀ a w, S (l.setIfInBounds i true) w → (Closed md ops (l.setIfInBounds i true) → S (l.setIfInBounds i true) w → AnyL P md ops Q S fuel (l.setIfInBounds i true) a w) → K' a w) → if Region.wanted o (yielded ops a.tmps) = true then Oper.wp P o a w K' Q else K' (a.put o.dst undef) w) :
    AnyL P md ops Q S (fuel + 1) l a w := by
  have hi : i ∈ Region.ready md ops l := by rw [hr]; simp
  obtain ⟨_, o, ho, _⟩ := mem_ready.1 hi
  exact AnyL.one o hr ho hC (h o ho)
/-- A block and a cell are as they were. -/
def WC (g : Nat) (cs : Array Value) (p : Addr) (u : Value) (w : World) : Prop := Blk w g cs 26 ∧ w.cell? p = some u
theorem WC.old {g : Nat} {cs : Array Value} {p : Addr} {u : Value} {w w' : World} (h : WC g cs p u w) (ho : Old w w') : WC g cs p u w' := ⟨h.1.old ho, ho.cell h.2⟩
theorem num_kv (w : World) (r : Nat) : KV w (fun _ => True) (V.num r) [.int .i64 3, .int .i64 (2 * ((r : Nat) : Int)), .string ⟨#[]⟩, .slice none 0 0, .slice none 0 0, .slice none 0 0] :=
  .mk _ _ _ [] [] [] _ _ _ (fun _ => []) (fun _ => []) (SliceV.nil _ _ _ _) (fun i hi => absurd hi (by simp)) (SliceV.nil _ _ _ _) (SliceV.nil _ _ _ _) (fun i hi => absurd hi (by simp))

set_option maxHeartbeats 4000000 in
set_option maxRecDepth 100000 in
theorem law6_any {a : V} (ha : Sized a) (w : World) (ok : Nat → Prop) (c0 c1 c2 c3 c4 c5 : Value) (hc : KV w ok a [c0, c1, c2, c3, c4, c5]) (hT : Tabs w) :
    Calls Tryd.prog 6 #[.agg #[c0, c1, c2, c3, c4, c5]] w (Yes w) := by
  obtain ⟨A1, n1, m1, A2, n2, m2, A3, n3, m3, rfl, rfl, rfl, rfl, rfl, rfl⟩ := shape hc
  obtain ⟨ka, hka⟩ : ∃ x, x = a.kind := ⟨_, rfl⟩
  obtain ⟨fa, hfa⟩ : ∃ x, x = a.half := ⟨_, rfl⟩
  obtain ⟨ta, hta⟩ : ∃ x, x = a.text := ⟨_, rfl⟩
  rw [← hka, ← hfa, ← hta] at hc ⊢
  have C := Lib.hid hc
  have HT := Lib.hid hT
  have HA := Lib.hid ha
  have KA := Lib.hid hka
  have TA := Lib.hid hta
  have hsz : ∀ x ∈ [a], Sized x := fun x hx => by
    obtain rfl := List.mem_singleton.1 hx
    exact ha
  have HS := Lib.hid hsz
  have HO := Lib.hid ((Old.refl w).alloc (.cells #[.int .i64 ka, .int .i64 fa, .string ta, .slice A1 n1 m1, .slice A2 n2 m2, .slice A3 n3 m3] 26))
  have BA := Lib.hid (Blk.new w #[.int .i64 ka, .int .i64 fa, .string ta, .slice A1 n1 m1, .slice A2 n2 m2, .slice A3 n3 m3] 26)
  clear hc hT ha hka hfa hta hsz
  by_cases h4 : ka = 4
  · subst h4
    go_enter Tryd.func6, Tryd.ntmps6
    go_wp2_with (first
      | (go_at_call 8; go_must (refine (fits1_any a HA.out _ ok _ _ _ _ _ _ (C.out.old HO.out)).mono ?_; rintro e w1 ⟨b1, rfl, ho1, _⟩; have HO1 := Lib.hid ho1; have bA := BA.out.old HO1.out; have x0 : w1.cell? ⟨w.heap.size, 0, none⟩ = some (.int .i64 4) := bA.cell 0; have x1 : w1.cell? ⟨w.heap.size, 1, none⟩ = some (.int .i64 fa) := bA.cell 1; have x2 : w1.cell? ⟨w.heap.size, 2, none⟩ = some (.string ta) := bA.cell 2; have x3 : w1.cell? ⟨w.heap.size, 3, none⟩ = some (.slice A1 n1 m1) := bA.cell 3; have x4 : w1.cell? ⟨w.heap.size, 4, none⟩ = some (.slice A2 n2 m2) := bA.cell 4; have x5 : w1.cell? ⟨w.heap.size, 5, none⟩ = some (.slice A3 n3 m3) := bA.cell 5; have hl : w.heap.size < w1.heap.size := bA.lt; clear bA; clear ho1; cases b1))
      | (go_at_call 20; go_must (refine (fine_any HS.out (by simp) _ _ _ (one_list C.out _ (HO.out.trans HO1.out)) (HT.out.old ((HO.out.trans HO1.out).alloc _))).mono ?_; rintro e w2 ⟨b2, rfl, ho2, hg2⟩; have HO2 := Lib.hid (HO1.out.trans (((Old.refl w1).alloc _).trans ho2)); have HG := Lib.hid hg2; clear x0 x1 x2 x3 x4 x5 hl; have bAb := BA.out.old HO2.out; have x0b : w2.cell? ⟨w.heap.size, 0, none⟩ = some (.int .i64 4) := bAb.cell 0; have x1b : w2.cell? ⟨w.heap.size, 1, none⟩ = some (.int .i64 fa) := bAb.cell 1; have x2b : w2.cell? ⟨w.heap.size, 2, none⟩ = some (.string ta) := bAb.cell 2; have x3b : w2.cell? ⟨w.heap.size, 3, none⟩ = some (.slice A1 n1 m1) := bAb.cell 3; have x4b : w2.cell? ⟨w.heap.size, 4, none⟩ = some (.slice A2 n2 m2) := bAb.cell 4; have x5b : w2.cell? ⟨w.heap.size, 5, none⟩ = some (.slice A3 n3 m3) := bAb.cell 5; have hlb : w.heap.size < w2.heap.size := bAb.lt; clear bAb; clear ho2 hg2; cases b2))
      | (go_at_call 21; go_must (have hg := HG.out trivial a (by simp); have ht : ta.size ≤ 4096 := (by rw [TA.out]; exact hg.2); refine (explode_text hg.1.1 KA.out.symm hg.2 _ ok _ _ _ _ _ _ (C.out.old (HO.out.trans HO2.out))).mono ?_; rintro e w3 ⟨g0, g1, g2, g3, g4, g5, rfl, hk, ho3⟩; rw [← TA.out] at hk; have HO3 := Lib.hid (HO2.out.trans ho3); obtain ⟨E1, q1, r1, E2, q2, r2, E3, q3, r3, rfl, rfl, rfl, rfl, rfl, rfl⟩ := shape hk; obtain ⟨ke, hke⟩ : ∃ x, x = (numsV (runes ta)).kind := ⟨_, rfl⟩; obtain ⟨fe, hfe⟩ : ∃ x, x = (numsV (runes ta)).half := ⟨_, rfl⟩; obtain ⟨te, hte⟩ : ∃ x, x = (numsV (runes ta)).text := ⟨_, rfl⟩; rw [← hke, ← hfe, ← hte] at hk ⊢; have HK := Lib.hid (KV.any hk); clear x0b x1b x2b x3b x4b x5b hlb; have bAc := BA.out.old HO3.out; have x0c : w3.cell? ⟨w.heap.size, 0, none⟩ = some (.int .i64 4) := bAc.cell 0; have x1c : w3.cell? ⟨w.heap.size, 1, none⟩ = some (.int .i64 fa) := bAc.cell 1; have x2c : w3.cell? ⟨w.heap.size, 2, none⟩ = some (.string ta) := bAc.cell 2; have x3c : w3.cell? ⟨w.heap.size, 3, none⟩ = some (.slice A1 n1 m1) := bAc.cell 3; have x4c : w3.cell? ⟨w.heap.size, 4, none⟩ = some (.slice A2 n2 m2) := bAc.cell 4; have x5c : w3.cell? ⟨w.heap.size, 5, none⟩ = some (.slice A3 n3 m3) := bAc.cell 5; have hlc : w.heap.size < w3.heap.size := bAc.lt; clear bAc; clear hk hke hfe hte ho3 hg))
      | (go_at_call 23; go_must (refine (points_any ta (by omega) _ (HT.out.old (((HO.out.trans HO3.out).alloc _).alloc _))).mono ?_; rintro e w4 ⟨v5, rfl, hrow, ho4⟩; have HO4 := Lib.hid ho4; have HROW := Lib.hid hrow; obtain ⟨A5, c5', rfl⟩ := own_len hrow; clear hrow ho4)))
    · go_ret
      exact ⟨rfl, HO.out.trans HO1.out⟩
    · go_ret
      exact ⟨rfl, HO.out.trans HO2.out⟩
    have hn : (runes ta).length ≤ 1048576 := by have := runesAt_len ta ta.size 0; unfold runes; omega
    clear x0c x1c x2c x3c x4c x5c hlc
    go_loopg [6] (runes ta).length (fun gk s6 wr => ∃ k v3, k + gk = (runes ta).length ∧ s6 = .int .i64 (k : Nat) ∧ Law6 w w3 wr w3.heap.size (w3.heap.size + 1) w4.heap.size #[.int .i64 ke, .int .i64 fe, .string te, .slice E1 q1 r1, .slice E2 q2 r2, .slice E3 q3 r3, .int .i64 0] (runes ta) (.slice A5 (runes ta).length c5') k v3)
    case atStart =>
      have hb := Blk.new (w3.alloc (.cells #[.int .i64 ke, .int .i64 fe, .string te, .slice E1 q1 r1, .slice E2 q2 r2, .slice E3 q3 r3, .int .i64 0] 31)) #[.int .i64 5, .int .i64 0, .string ⟨#[]⟩, .slice none 0 0, .slice none 0 0, .slice none 0 0] 26
      rw [show (w3.alloc (.cells #[.int .i64 ke, .int .i64 fe, .string te, .slice E1 q1 r1, .slice E2 q2 r2, .slice E3 q3 r3, .int .i64 0] 31)).heap.size = w3.heap.size + 1 by simp] at hb
      have hs4 := HO4.out.size
      simp at hs4
      have hs3 := (HO.out.trans HO3.out).size
      refine ⟨0, _, by simp, rfl, ((Blk.new w3 _ _).alloc _).old HO4.out, hb.old HO4.out, SliceV.of_own HROW.out (fun b hb => ?_) (fun i hi => ⟨rfl, fun j hj => ?_⟩), World.ownsRow_nil _ _ _ _, (((HO.out.trans HO3.out).alloc _).alloc _).trans HO4.out, (((Old.refl w3).alloc _).alloc _).trans HO4.out, Nat.le_refl _, by omega⟩
      · have := own_lt HROW.out hb
        simp at this
        omega
      · obtain rfl : j = 0 := by omega
        simp [hi]
    case round =>
      obtain ⟨k, v3, hk, rfl, R⟩ := hrel
      obtain ⟨A3k, c3k, rfl⟩ := own_len R.row
      have R0 := Lib.hid R
      by_cases hlt : k < (runes ta).length
      · obtain ⟨b5, o5, rfl, hb5, k5⟩ := one_at R.ints k hlt
        obtain ⟨r, hr⟩ : ∃ r, r = (runes ta).getD k 0 := ⟨_, rfl⟩
        have hrl : r ≤ 1114111 := by
          rw [hr]
          have : (runes ta).getD k 0 ∈ runes ta := by simp [hlt]
          exact runesAt_le ta _ _ _ this
        rw [← hr] at k5
        have HR := Lib.hid hr
        have HW := Lib.hid R.want
        have K5 := Lib.hid k5
        clear R hr k5
        go_upto_region 13 with (fail)
        have hB : WC (w3.heap.size + 1) #[.int .i64 5, .int .i64 0, .string ⟨#[]⟩, .slice A3k k c3k, .slice none 0 0, .slice none 0 0] ⟨b5, o5 + k, none⟩ (.int .i64 (r : Nat)) wr.drew := ⟨HW.out.drew, K5.out⟩
        have HB := Lib.hid hB
        refine AnyL.region 11 (S := Til 8 (WC (w3.heap.size + 1) #[.int .i64 5, .int .i64 0, .string ⟨#[]⟩, .slice A3k k c3k, .slice none 0 0, .slice none 0 0] ⟨b5, o5 + k, none⟩ (.int .i64 (r : Nat)))) rfl (by kernel_rfl) (fun hC => ?_)
        have hS : Til 8 (WC (w3.heap.size + 1) #[.int .i64 5, .int .i64 0, .string ⟨#[]⟩, .slice A3k k c3k, .slice none 0 0, .slice none 0 0] ⟨b5, o5 + k, none⟩ (.int .i64 (r : Nat))) (Array.replicate 11 false) wr.drew := Til.mk hB
        clear hB
        refine AnyL.take (i := 0) (v := .pointer (some ⟨w3.heap.size + 1, 3, none⟩)) (some 31) (fun _ => True) rfl (by kernel_rfl) (by kernel_rfl) (by kernel_rfl) (fun _ _ _ h => h) (fun _ _ _ _ _ => trivial) (fun l w' => Til.set (by decide) l w') (fun _ ho => by cases ho; exact Or.inl ⟨by rfl, fun w' _ => by go_simp⟩) hC hS (fun hC hS => ?_)
        simp only [Act.put, List.setIfInBounds_toArray, List.set_cons_zero, List.set_cons_succ]
        refine AnyL.take (i := 2) (v := .slice (some ⟨b5, o5, none⟩) (runes ta).length c5') (some 33) (fun _ => True) rfl (by kernel_rfl) (by kernel_rfl) (by kernel_rfl) (fun _ _ _ h => h) (fun _ _ _ _ _ => trivial) (fun l w' => Til.set (by decide) l w') (fun _ ho => by cases ho; exact Or.inl ⟨by rfl, fun w' _ => by go_simp⟩) hC hS (fun hC hS => ?_)
        simp only [Act.put, List.setIfInBounds_toArray, List.set_cons_zero, List.set_cons_succ]
        refine AnyL.take (i := 3) (v := .int .i64 (k : Nat)) (some 34) (fun _ => True) rfl (by kernel_rfl) (by kernel_rfl) (by kernel_rfl) (fun _ _ _ h => h) (fun _ _ _ _ _ => trivial) (fun l w' => Til.set (by decide) l w') (fun _ ho => by cases ho; exact Or.inl ⟨by rfl, fun w' _ => by go_simp⟩) hC hS (fun hC hS => ?_)
        simp only [Act.put, List.setIfInBounds_toArray, List.set_cons_zero, List.set_cons_succ]
        refine AnyL.take (i := 4) (v := .pointer (some ⟨b5, o5 + k, none⟩)) (some 35) (fun _ => True) rfl (by kernel_rfl) (by kernel_rfl) (by kernel_rfl) (fun _ _ _ h => h) (fun _ _ _ _ _ => trivial) (fun l w' => Til.set (by decide) l w') (fun _ ho => by cases ho; exact Or.inl ⟨by rfl, fun w' _ => by go_simp⟩) hC hS (fun hC hS => ?_)
        simp only [Act.put, List.setIfInBounds_toArray, List.set_cons_zero, List.set_cons_succ]
        refine AnyL.take (i := 1) (v := .slice A3k k c3k) (some 32) (WC (w3.heap.size + 1) #[.int .i64 5, .int .i64 0, .string ⟨#[]⟩, .slice A3k k c3k, .slice none 0 0, .slice none 0 0] ⟨b5, o5 + k, none⟩ (.int .i64 (r : Nat))) rfl (by kernel_rfl) (by kernel_rfl) (by kernel_rfl) (fun _ _ _ h => h) (fun l w' hC hl hS => hS (hC.un (j := 8) (i := 1) (by kernel_rfl) hl)) (fun l w' => Til.set (by decide) l w') (fun _ ho => by cases ho; exact Or.inl ⟨by rfl, fun w' hB => by have h3 := hB.1.cell 3; go_simp⟩) hC hS (fun hC hS => ?_)
        simp only [Act.put, List.setIfInBounds_toArray, List.set_cons_zero, List.set_cons_succ]
        refine AnyL.take (i := 5) (v := .int .i64 (r : Nat)) (some 36) (WC (w3.heap.size + 1) #[.int .i64 5, .int .i64 0, .string ⟨#[]⟩, .slice A3k k c3k, .slice none 0 0, .slice none 0 0] ⟨b5, o5 + k, none⟩ (.int .i64 (r : Nat))) rfl (by kernel_rfl) (by kernel_rfl) (by kernel_rfl) (fun _ _ _ h => h) (fun l w' hC hl hS => hS (hC.un (j := 8) (i := 6) (by kernel_rfl) (hC.un (j := 6) (i := 5) (by kernel_rfl) hl))) (fun l w' => Til.set (by decide) l w') (fun _ ho => by cases ho; exact Or.inl ⟨by rfl, fun w' hB => by have h3 := hB.2; go_simp⟩) hC hS (fun hC hS => ?_)
        simp only [Act.put, List.setIfInBounds_toArray, List.set_cons_zero, List.set_cons_succ]
        have hh := num_any wr.drew (r : Nat) (by omega) (by omega)
        have HH := Lib.hid hh
        clear hh
        refine AnyL.nxt 6 (by kernel_rfl) hC (fun o ho K hK => ?_)
        cases ho
        go_simp
        refine HH.out.mono ?_
        rintro e w5 ⟨rfl, ho⟩
        have HO5 := Lib.hid (((Old.refl wr).drew).trans ho)
        replace HB := Lib.hid (HB.out.old ho)
        clear ho HH
        refine hK.out _ _ (Til.mk HB.out) (fun hC hS => ?_)
        clear hK K
        refine AnyL.nxt 7 (by kernel_rfl) hC (fun o ho K hK => ?_)
        cases ho
        go_simp
        refine hK.out _ _ (Til.mk (HB.out.old ((Old.refl _).alloc _))) (fun hC hS => ?_)
        clear hK K
        obtain ⟨iv, hi, hz0, hz1, hz2⟩ := info_parts Tryd.infoVal
        have hkb : k ≤ 1048575 := by omega
        refine AnyL.one (i := 8) { dst := some 39, op := .call { callee := .builtin .append, args := #[.tmp 32, .tmp 38], argTypes := #[23, 23] }, type := 23, pos := "laws_q03.go:73", after := #[{ on := 1, ground := .data }, { on := 7, ground := .data }, { on := 6, ground := .chain }], guard := none } (by kernel_rfl) rfl hC (fun K hK => ?_)
        refine step_append_lies _ (by rfl) (.tmp 32) (.tmp 38) 23 (by rfl) w4.heap.size 26 iv _ 6 104 Tryd.underlying23 hi hz0 hz1 hz2 rfl (by decide) (.slice A3k k c3k) k (flat (numC (runes ta)) k) (by rfl) (own_old R0.out.row (HO5.out.alloc _)) _ 1 1 [.int .i64 3, .int .i64 (2 * ((r : Nat) : Int)), .string ⟨#[]⟩, .slice none 0 0, .slice none 0 0, .slice none 0 0] (by rfl) rfl (news_blk (cs := #[.int .i64 3, .int .i64 (2 * ((r : Nat) : Int)), .string ⟨#[]⟩, .slice none 0 0, .slice none 0 0, .slice none 0 0]) (Blk.new_ rfl _ _)) (one_six (num_kv w5 r)) (by decide) (by unfold maxLen; omega) (by omega) (by have := R0.out.size; have := HO5.out.size; simp; omega) _ rfl ?_
        intro g cg w6 hown hg hat hlt6
        have hnum : [.int .i64 3, .int .i64 (2 * ((r : Nat) : Int)), .string ⟨#[]⟩, .slice none 0 0, .slice none 0 0, .slice none 0 0] = numC (runes ta) k := by rw [numC, ← HR.out]; rfl
        rw [hnum] at hown
        have hp := R0.out.put (HO5.out.alloc _) hown hg
        have x3 : w6.cell? ⟨w3.heap.size + 1, 3, none⟩ = some (.slice A3k k c3k) := hp.1.cell 3
        have f3 : w6.frozen? ⟨w3.heap.size + 1, 3, none⟩ = false := hp.1.frozen 3
        have hl6 := hp.1.lt
        have HP := Lib.hid hp.2
        clear hown hg hat hnum hp hi hz0 hz1 hz2
        refine hK.out _ _ (Til.late (by rfl)) (fun hC hS => ?_)
        clear hK K
        simp only [Act.put, List.setIfInBounds_toArray, List.set_cons_zero, List.set_cons_succ]
        refine AnyL.take (i := 9) (v := .pointer (some ⟨w3.heap.size + 1, 3, none⟩)) (some 40) (fun _ => True) rfl (by kernel_rfl) (by kernel_rfl) (by kernel_rfl) (fun _ _ _ h => h) (fun _ _ _ _ _ => trivial) (fun l w' => Til.set (by decide) l w') (fun _ ho => by cases ho; exact Or.inl ⟨by rfl, fun w' _ => by go_simp⟩) hC hS (fun hC hS => ?_)
        simp only [Act.put, List.setIfInBounds_toArray, List.set_cons_zero, List.set_cons_succ]
        refine AnyL.nxt 10 (by kernel_rfl) hC (fun o ho K hK => ?_)
        cases ho
        go_simp
        refine hK.out _ _ (Til.late (by rfl)) (fun hC hS => ?_)
        clear hK K
        refine AnyL.done (by kernel_rfl) ?_ _
        clear hC hS
        go_wp2
        go_roundg (gk - 1)
        case measure => omega
        case rel => exact ⟨k + 1, _, by omega, by go_num, HP.out⟩
      · obtain rfl : k = (runes ta).length := by omega
        have hgood := nums_good hn (runesAt_le ta ta.size 0)
        have HSY := Lib.hid (says_any (v := numsV (runes ta)) hgood wr _ _ _ _ _ _ _ _ _ _ _ _ _ _ (HK.out.old R0.out.oldb) (KV.arr (nums_kv R0.out.row)))
        have z0 := R.res.cell 0; have z1 := R.res.cell 1; have z2 := R.res.cell 2; have z3 := R.res.cell 3; have z4 := R.res.cell 4; have z5 := R.res.cell 5; have z6 := R.res.cell 6;
        have v0 := R.want.cell 0; have v1 := R.want.cell 1; have v2 := R.want.cell 2; have v3 := R.want.cell 3; have v4 := R.want.cell 4; have v5 := R.want.cell 5;
        have hlr := R.res.lt
        have hlw := R.want.lt
        have hol := Lib.hid R.old
        clear R
        go_wp2_with (go_at_call 25; go_must (refine HSY.out.mono ?_; rintro e w7 ⟨rfl, ho⟩; have HO7 := Lib.hid ho; clear ho))
        go_ret
        exact ⟨rfl, hol.out.trans HO7.out⟩
  · go_enter Tryd.func6, Tryd.ntmps6
    go_wp2_with (first
      | (go_at_call 8; go_must (refine (fits1_any a HA.out _ ok _ _ _ _ _ _ (C.out.old HO.out)).mono ?_; rintro e w1 ⟨b1, rfl, ho1, _⟩; have HO1 := Lib.hid ho1; have bA := BA.out.old HO1.out; have x0 : w1.cell? ⟨w.heap.size, 0, none⟩ = some (.int .i64 ka) := bA.cell 0; have x1 : w1.cell? ⟨w.heap.size, 1, none⟩ = some (.int .i64 fa) := bA.cell 1; have x2 : w1.cell? ⟨w.heap.size, 2, none⟩ = some (.string ta) := bA.cell 2; have x3 : w1.cell? ⟨w.heap.size, 3, none⟩ = some (.slice A1 n1 m1) := bA.cell 3; have x4 : w1.cell? ⟨w.heap.size, 4, none⟩ = some (.slice A2 n2 m2) := bA.cell 4; have x5 : w1.cell? ⟨w.heap.size, 5, none⟩ = some (.slice A3 n3 m3) := bA.cell 5; have hl : w.heap.size < w1.heap.size := bA.lt; clear bA; clear ho1; cases b1))
      | (go_at_call 20; go_must (refine (fine_any HS.out (by simp) _ _ _ (one_list C.out _ (HO.out.trans HO1.out)) (HT.out.old ((HO.out.trans HO1.out).alloc _))).mono ?_; rintro e w2 ⟨b2, rfl, ho2, hg2⟩; have HO2 := Lib.hid (HO1.out.trans (((Old.refl w1).alloc _).trans ho2)); have HG := Lib.hid hg2; clear x0 x1 x2 x3 x4 x5 hl; have bAb := BA.out.old HO2.out; have x0b : w2.cell? ⟨w.heap.size, 0, none⟩ = some (.int .i64 ka) := bAb.cell 0; have x1b : w2.cell? ⟨w.heap.size, 1, none⟩ = some (.int .i64 fa) := bAb.cell 1; have x2b : w2.cell? ⟨w.heap.size, 2, none⟩ = some (.string ta) := bAb.cell 2; have x3b : w2.cell? ⟨w.heap.size, 3, none⟩ = some (.slice A1 n1 m1) := bAb.cell 3; have x4b : w2.cell? ⟨w.heap.size, 4, none⟩ = some (.slice A2 n2 m2) := bAb.cell 4; have x5b : w2.cell? ⟨w.heap.size, 5, none⟩ = some (.slice A3 n3 m3) := bAb.cell 5; have hlb : w.heap.size < w2.heap.size := bAb.lt; clear bAb; clear ho2 hg2; cases b2))
      | (go_at_call 21; go_must (refine (explode_else (HG.out trivial a (by simp)).1.1 (by rw [← KA.out]; exact h4) _ ok _ _ _ _ _ _ (C.out.old (HO.out.trans HO2.out))).mono ?_; rintro e w3 ⟨rfl, ho3⟩; have HO3 := Lib.hid (HO2.out.trans ho3); clear x0b x1b x2b x3b x4b x5b hlb; have bAc := BA.out.old HO3.out; have x0c : w3.cell? ⟨w.heap.size, 0, none⟩ = some (.int .i64 ka) := bAc.cell 0; have x1c : w3.cell? ⟨w.heap.size, 1, none⟩ = some (.int .i64 fa) := bAc.cell 1; have x2c : w3.cell? ⟨w.heap.size, 2, none⟩ = some (.string ta) := bAc.cell 2; have x3c : w3.cell? ⟨w.heap.size, 3, none⟩ = some (.slice A1 n1 m1) := bAc.cell 3; have x4c : w3.cell? ⟨w.heap.size, 4, none⟩ = some (.slice A2 n2 m2) := bAc.cell 4; have x5c : w3.cell? ⟨w.heap.size, 5, none⟩ = some (.slice A3 n3 m3) := bAc.cell 5; have hlc : w.heap.size < w3.heap.size := bAc.lt; clear bAc; clear ho3))
      | (go_at_call 22; go_must (refine (wrong_any _).mono ?_; rintro e w5 ⟨rfl, ho5⟩; have HO5 := Lib.hid ho5; clear ho5)))
    all_goals go_ret
    all_goals first
      | exact ⟨rfl, ((HO.out.trans HO3.out).alloc _).trans HO5.out⟩
      | exact ⟨rfl, HO.out.trans HO2.out⟩
      | exact ⟨rfl, HO.out.trans HO1.out⟩
end Go.Proofs.YtpoanncombcemaaDoor
