/-
  Two lists, one behind the other, reversed, are the second one reversed, and then the first one.
  Conditions: none.
-/
import Derived.Test.YtpoanncombcemaaDoorLaid
import Derived.Test.YtpoanncombcemaaDoorTold
import Derived.Test.YtpoanncombcemaaDoorRev2
import Derived.Deep.DeepMust
namespace Go.Proofs.YtpoanncombcemaaDoor
open Go.RowKit

theorem KVs.sl {w : World} {ok : Nat → Prop} {l : List V} {v : Value} (h : KVs w ok l v) : ∃ A n c, v = .slice A n c := by
  obtain ⟨_, s, _⟩ := h
  obtain ⟨A, c, rfl, _⟩ := s.len
  exact ⟨_, _, _, rfl⟩
theorem KVs.any {w : World} {ok : Nat → Prop} {l : List V} {v : Value} (h : KVs w ok l v) : KVs w (fun _ => True) l v := by
  obtain ⟨C, s, r⟩ := h
  exact ⟨C, s.mono fun _ _ _ => trivial, fun i hi => (r i hi).any⟩
theorem KVs.old {w w' : World} {ok : Nat → Prop} {l : List V} {v : Value} (h : KVs w ok l v) (ho : Old w w') : KVs w' ok l v := by
  obtain ⟨C, s, r⟩ := h
  exact ⟨C, s.old ho, fun i hi => (r i hi).old ho⟩
theorem two_arr {w : World} {ok : Nat → Prop} {la lb : List V} {va vb : Value} (ha : KVs w ok la va) (hb : KVs w ok lb vb) (W : World) (hW : Old w W) :
    KVs (W.alloc (.cells #[.int .i64 5, .int .i64 0, .string ⟨#[]⟩, va, .slice none 0 0, .slice none 0 0, .int .i64 5, .int .i64 0, .string ⟨#[]⟩, vb, .slice none 0 0, .slice none 0 0] 26)) (fun _ => True) [V.arr la, V.arr lb] (.slice (some ⟨W.heap.size, 0, none⟩) 2 2) := by
  have hb' := Blk.new W #[.int .i64 5, .int .i64 0, .string ⟨#[]⟩, va, .slice none 0 0, .slice none 0 0, .int .i64 5, .int .i64 0, .string ⟨#[]⟩, vb, .slice none 0 0, .slice none 0 0] 26
  refine ⟨fun i => if i = 0 then [.int .i64 5, .int .i64 0, .string nilS, va, .slice none 0 0, .slice none 0 0] else [.int .i64 5, .int .i64 0, .string nilS, vb, .slice none 0 0, .slice none 0 0], ⟨_, _, rfl, Nat.le_refl _, (fun h => by cases h), fun _ => ⟨_, 0, _, _, _, rfl, trivial, hb', fun i hi => ?_⟩⟩, fun i hi => ?_⟩
  · match i, hi with
    | 0, _ => exact ⟨rfl, fun j hj => by match j, hj with | 0, _ | 1, _ | 2, _ | 3, _ | 4, _ | 5, _ => rfl⟩
    | 1, _ => exact ⟨rfl, fun j hj => by match j, hj with | 0, _ | 1, _ | 2, _ | 3, _ | 4, _ | 5, _ => rfl⟩
  · have hw := hW.alloc (.cells #[.int .i64 5, .int .i64 0, .string ⟨#[]⟩, va, .slice none 0 0, .slice none 0 0, .int .i64 5, .int .i64 0, .string ⟨#[]⟩, vb, .slice none 0 0, .slice none 0 0] 26)
    match i, hi with
    | 0, _ => exact ((KV.arr ha).old hw).mono fun _ _ _ => trivial
    | 1, _ => exact ((KV.arr hb).old hw).mono fun _ _ _ => trivial
theorem Sized.arr {l : List V} (hl : l.length ≤ 9223372036854775807) (h : ∀ x ∈ l, Sized x) : Sized (V.arr l) :=
  .mk 5 0 nilS l [] [] (by decide) hl (by simp) (by simp) (fun _ h => by cases h) h (fun _ h => by cases h)

set_option maxHeartbeats 4000000 in
set_option maxRecDepth 100000 in
theorem law4_any {la lb : List V} (za : ∀ x ∈ la, Sized x) (na : la.length ≤ 9223372036854775807) (zb : ∀ x ∈ lb, Sized x) (nb : lb.length ≤ 9223372036854775807) (w : World) (ok : Nat → Prop) (va vb : Value) (ha : KVs w ok la va) (hb : KVs w ok lb vb) (hT : Tabs w) :
    Calls Tryd.prog 4 #[va, vb] w (Yes w) := by
  have HA := Lib.hid ha
  have HB := Lib.hid hb
  have HT := Lib.hid hT
  have hsz : ∀ x ∈ [V.arr la, V.arr lb], Sized x := by
    intro x hx
    rcases List.mem_cons.1 hx with rfl | hx
    · exact Sized.arr na za
    · rcases List.mem_cons.1 hx with rfl | hx
      · exact Sized.arr nb zb
      · cases hx
  have HS := Lib.hid hsz
  obtain ⟨_, s, _⟩ := ha
  obtain ⟨A, ca, rfl, _⟩ := s.len
  clear s
  obtain ⟨_, s, _⟩ := hb
  obtain ⟨B, cb, rfl, _⟩ := s.len
  clear s hT za zb hsz
  by_cases h1 : (2147483647 : Int) < (la.length : Int)
  · go_enter Tryd.func4, Tryd.ntmps4
    go_wp2
    go_ret
    exact ⟨rfl, Old.refl _⟩
  · by_cases h2 : (2147483647 : Int) < (lb.length : Int)
    · go_enter Tryd.func4, Tryd.ntmps4
      go_wp2
      go_ret
      exact ⟨rfl, Old.refl _⟩
    · go_enter Tryd.func4, Tryd.ntmps4
      have HW := Lib.hid (Old.refl w)
      go_upto_region 5 with (first
        | (go_at_call 14; go_must (refine (array_any _ _ _ _).mono ?_; rintro e w1 ⟨rfl, ho⟩; (try replace HRA := Lib.hid (HRA.out.old ho)); (try replace HRB := Lib.hid (HRB.out.old ho)); (try replace HJ := Lib.hid (HJ.out.old ho)); (try replace HRJ := Lib.hid (HRJ.out.old ho)); (try replace HK := Lib.hid (HK.out.old ho)); replace HW := Lib.hid (HW.out.trans ho); clear ho))
        | (go_at_call 13; go_must (refine (fits_any HS.out (by simp) _ _ _ (two_arr HA.out HB.out _ HW.out) (HT.out.old (HW.out.alloc _))).mono ?_; rintro e w3 ⟨b3, rfl, ho, hr⟩; replace HW := Lib.hid ((HW.out.alloc _).trans ho); have HR := Lib.hid hr; clear ho hr; cases b3)))
      · go_ret
        exact ⟨rfl, HW.out⟩
      · have hr := HR.out trivial
        have ra := hr (V.arr la) (by simp)
        have rb := hr (V.arr lb) (by simp)
        obtain ⟨n1, g1⟩ := Good.of_arr ra.1
        obtain ⟨n2, g2⟩ := Good.of_arr rb.1
        have s1 := (Small.of_arr ra.2).1
        have s2 := (Small.of_arr rb.2).1
        have hgj : Good (V.arr (la ++ lb)) := Good.arr (by rw [List.length_append]; omega) fun x hx => (List.mem_append.1 hx).elim (g1 x) (g2 x)
        have hgr : Good (V.arr (la ++ lb).reverse) := Good.arr (by rw [List.length_reverse, List.length_append]; omega) fun x hx => (List.mem_append.1 (List.mem_reverse.1 hx)).elim (g1 x) (g2 x)
        have GA := Lib.hid ra.1
        have GB := Lib.hid rb.1
        have GJ := Lib.hid hgj
        have GR := Lib.hid hgr
        clear hr ra rb n1 n2 g1 g2 hgj hgr HR HS
        go_wp2_with (first
        | (go_at_call 14; go_must (refine (array_any _ _ _ _).mono ?_; rintro e w1 ⟨rfl, ho⟩; (try replace HRA := Lib.hid (HRA.out.old ho)); (try replace HRB := Lib.hid (HRB.out.old ho)); (try replace HJ := Lib.hid (HJ.out.old ho)); (try replace HRJ := Lib.hid (HRJ.out.old ho)); (try replace HK := Lib.hid (HK.out.old ho)); replace HW := Lib.hid (HW.out.trans ho); clear ho))
        | (go_at_call 16; have hq := HJ; clear hq; go_must (refine (reverse_any GJ.out _ _ _ _ _ _ _ _ (KV.arr HJ.out)).mono ?_; rintro e w7 ⟨c0, c1, c2, c3, c4, c5, rfl, hk, ho⟩; (try replace HRA := Lib.hid (HRA.out.old ho)); (try replace HRB := Lib.hid (HRB.out.old ho)); (try replace HJ := Lib.hid (HJ.out.old ho)); (try replace HRJ := Lib.hid (HRJ.out.old ho)); (try replace HK := Lib.hid (HK.out.old ho)); replace HW := Lib.hid (HW.out.trans ho); clear ho; obtain ⟨E1, q1, r1, E2, q2, r2, E3, q3, r3, rfl, rfl, rfl, rfl, rfl, rfl⟩ := shape hk; obtain ⟨ke, hke⟩ : ∃ x, x = (V.arr (la ++ lb).reverse).kind := ⟨_, rfl⟩; obtain ⟨fe, hfe⟩ : ∃ x, x = (V.arr (la ++ lb).reverse).half := ⟨_, rfl⟩; obtain ⟨te, hte⟩ : ∃ x, x = (V.arr (la ++ lb).reverse).text := ⟨_, rfl⟩; rw [← hke, ← hfe, ← hte] at hk ⊢; have HRJ := Lib.hid (KV.any hk); clear hk hke hfe hte))
        | (go_at_call 16; have hq := HRA; clear hq; go_must (refine (reverse_any GB.out _ _ _ _ _ _ _ _ (KV.arr (HB.out.old HW.out))).mono ?_; rintro e w6 ⟨c0, c1, c2, c3, c4, c5, rfl, hk, ho⟩; (try replace HRA := Lib.hid (HRA.out.old ho)); (try replace HRB := Lib.hid (HRB.out.old ho)); (try replace HJ := Lib.hid (HJ.out.old ho)); (try replace HRJ := Lib.hid (HRJ.out.old ho)); (try replace HK := Lib.hid (HK.out.old ho)); replace HW := Lib.hid (HW.out.trans ho); clear ho; have HRB := Lib.hid (KVs.any (KV.arr_list hk).2.2.2); obtain ⟨rfl, rfl, rfl, hkl⟩ := KV.arr_list hk; clear hk; obtain ⟨A6, n6, ca6, rfl⟩ := KVs.sl hkl; clear hkl))
        | (go_at_call 16; go_must (refine (reverse_any GA.out _ _ _ _ _ _ _ _ (KV.arr (HA.out.old HW.out))).mono ?_; rintro e w5 ⟨c0, c1, c2, c3, c4, c5, rfl, hk, ho⟩; (try replace HRA := Lib.hid (HRA.out.old ho)); (try replace HRB := Lib.hid (HRB.out.old ho)); (try replace HJ := Lib.hid (HJ.out.old ho)); (try replace HRJ := Lib.hid (HRJ.out.old ho)); (try replace HK := Lib.hid (HK.out.old ho)); replace HW := Lib.hid (HW.out.trans ho); clear ho; have HRA := Lib.hid (KVs.any (KV.arr_list hk).2.2.2); obtain ⟨rfl, rfl, rfl, hkl⟩ := KV.arr_list hk; clear hk; obtain ⟨A5, n5, ca5, rfl⟩ := KVs.sl hkl; clear hkl))
        | (go_at_call 15; go_must (refine (listed_any _ _ _ _ _ _ _ _ _ rfl).mono ?_; rintro e w1 ⟨rfl, ho⟩; (try replace HRA := Lib.hid (HRA.out.old ho)); (try replace HRB := Lib.hid (HRB.out.old ho)); (try replace HJ := Lib.hid (HJ.out.old ho)); (try replace HRJ := Lib.hid (HRJ.out.old ho)); (try replace HK := Lib.hid (HK.out.old ho)); replace HW := Lib.hid (HW.out.trans ho); clear ho))
        | (go_at_call 17; have hq := HRJ; clear hq; go_must (refine (joined_any _ _ _ _ HRB.out HRA.out (by simp; omega)).mono ?_; rintro e w8 ⟨v, rfl, hk, ho⟩; (try replace HRA := Lib.hid (HRA.out.old ho)); (try replace HRB := Lib.hid (HRB.out.old ho)); (try replace HJ := Lib.hid (HJ.out.old ho)); (try replace HRJ := Lib.hid (HRJ.out.old ho)); (try replace HK := Lib.hid (HK.out.old ho)); replace HW := Lib.hid (HW.out.trans ho); clear ho; have HK := Lib.hid hk; obtain ⟨A8, n8, ca8, rfl⟩ := KVs.sl hk; clear hk))
        | (go_at_call 17; go_must (refine (joined_any _ _ _ _ (HA.out.old HW.out) (HB.out.old HW.out) (by omega)).mono ?_; rintro e w9 ⟨v, rfl, hk, ho⟩; (try replace HRA := Lib.hid (HRA.out.old ho)); (try replace HRB := Lib.hid (HRB.out.old ho)); (try replace HJ := Lib.hid (HJ.out.old ho)); (try replace HRJ := Lib.hid (HRJ.out.old ho)); (try replace HK := Lib.hid (HK.out.old ho)); replace HW := Lib.hid (HW.out.trans ho); clear ho; have HJ := Lib.hid hk; obtain ⟨A9, n9, ca9, rfl⟩ := KVs.sl hk; clear hk))
        | (go_at_call 11; go_must (refine (given_any GR.out _ _ _ _ _ _ _ _ _ _ _ _ _ _ _ HRJ.out (by have := KV.arr HK.out; rw [← List.reverse_append] at this; exact this)).mono ?_; rintro e w10 ⟨rfl, ho⟩; replace HW := Lib.hid (HW.out.trans ho); clear ho)))
        go_ret
        exact ⟨rfl, HW.out⟩
end Go.Proofs.YtpoanncombcemaaDoor
