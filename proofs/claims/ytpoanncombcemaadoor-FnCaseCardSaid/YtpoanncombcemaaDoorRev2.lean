/-
  Reverse of a list of values, through the thin package's door.
  Conditions: the list is right.
-/
import Derived.Test.YtpoanncombcemaaDoorJoin
import Derived.Test.YtpoanncombcemaaDoorAlt2
import Derived.Test.YtpoanncombcemaaDoorFrom7
import Derived.Test.YtpoanncombcemaaDoorSize
import Derived.Deep.DeepMust
namespace Go.Proofs.YtpoanncombcemaaDoor
open Go.RowKit

theorem toJ_arr (l : List V) : toJ (V.arr l) = .arr (toJs l) := by simp [V.arr, toJ]
theorem KV.arr {w : World} {ok : Nat → Prop} {l : List V} {v : Value} (h : KVs w ok l v) : KV w ok (V.arr l) [.int .i64 5, .int .i64 0, .string nilS, v, .slice none 0 0, .slice none 0 0] := by
  obtain ⟨C, s, r⟩ := h
  exact .mk 5 0 nilS l [] [] _ _ _ C (fun _ => []) s r (SliceV.nil _ _ _ _) (SliceV.nil _ _ _ _) (fun i hi => absurd hi (by simp))
theorem KV.arr_list {w : World} {ok : Nat → Prop} {l : List V} {c0 c1 c2 c3 c4 c5 : Value} (h : KV w ok (V.arr l) [c0, c1, c2, c3, c4, c5]) : c0 = .int .i64 5 ∧ c1 = .int .i64 0 ∧ c2 = .string nilS ∧ KVs w ok l c3 := by
  obtain ⟨v1, v2, v3, C1, C3, hcs, s1, r1, _⟩ := h.form
  simp only [List.cons.injEq, and_true] at hcs
  obtain ⟨rfl, rfl, rfl, rfl, rfl, rfl⟩ := hcs
  exact ⟨rfl, rfl, rfl, C1, s1, r1⟩
theorem Good.arr {l : List V} (hl : l.length ≤ 1048576) (h : ∀ x ∈ l, Good x) : Good (V.arr l) :=
  .mk 5 0 nilS l [] [] (by decide) (by decide) (.inr rfl) (.inr rfl) (.inl rfl) (.inr rfl) rfl ⟨by decide, by decide, .inl rfl⟩ ⟨by decide, by decide⟩ hl (by simp) List.Pairwise.nil (fun _ h => by cases h) h (fun _ h => by cases h)
theorem Good.of_arr {l : List V} (h : Good (V.arr l)) : l.length ≤ 1048576 ∧ ∀ x ∈ l, Good x := by
  cases h
  exact ⟨by assumption, by assumption⟩
theorem Small.of_arr {l : List V} (h : Small (V.arr l)) : l.length ≤ 400 ∧ ∀ x ∈ l, Small x := by
  cases h
  exact ⟨by assumption, by assumption⟩
theorem ofJ_back {l : List V} (h : ∀ x ∈ l, Good x) : ofJ (.arr (toJs l).reverse) = V.arr l.reverse := by
  have e : (toJs l).reverse = toJs l.reverse := by rw [toJs_map, toJs_map, List.map_reverse]
  rw [e]
  have e2 : ofJs (toJs l.reverse) = l.reverse := by
    rw [toJs_map, ofJs_map]
    exact map_same fun x hx => ofJ_toJ (h x (List.mem_reverse.1 hx))
  simp [ofJ, V.arr, e2]

set_option maxHeartbeats 4000000 in
set_option maxRecDepth 100000 in
theorem reverse_door (hm : FromsM) {v : V} (hg : Good v) {j : J} (hj : JGood j) (hz : ∀ (W : World) (ok : Nat → Prop) (x : Value), KJ W ok (toJ v) x → Calls Tryd.prog 34 #[x] W (GoAns W j)) (w : World) (ok : Nat → Prop) (c0 c1 c2 c3 c4 c5 : Value) (hc : KV w ok v [c0, c1, c2, c3, c4, c5]) :
    Calls Tryd.prog 16 #[.agg #[c0, c1, c2, c3, c4, c5]] w (AltAns w (ofJ j)) := by
  have HFR := Lib.hid (fromGo_any hm hj)
  have TA := Lib.hid (toGo_any hg)
  have C := Lib.hid hc
  have HZ := Lib.hid hz
  obtain ⟨A1, n1, m1, A2, n2, m2, A3, n3, m3, rfl, rfl, rfl, rfl, rfl, rfl⟩ := shape hc
  generalize v.kind = ka at *
  generalize v.half = fa at *
  generalize v.text = ta at *
  have ho := ((Old.refl w).alloc (.cells #[.int .i64 ka, .int .i64 fa, .string ta, .slice A1 n1 m1, .slice A2 n2 m2, .slice A3 n3 m3] 26)).alloc (.cells #[.int .i64 0, .int .i64 0, .string ⟨#[]⟩, .slice none 0 0, .slice none 0 0, .slice none 0 0, .int .i64 0] 31)
  have HC1 := Lib.hid (TA.out _ ok _ _ _ _ _ _ (C.out.old ho))
  have HO := Lib.hid ho
  clear hc hm ho hz hg hj
  have RB := Lib.hid (show Blk ((w.alloc (.cells #[.int .i64 ka, .int .i64 fa, .string ta, .slice A1 n1 m1, .slice A2 n2 m2, .slice A3 n3 m3] 26)).alloc (.cells #[.int .i64 0, .int .i64 0, .string ⟨#[]⟩, .slice none 0 0, .slice none 0 0, .slice none 0 0, .int .i64 0] 31)) (w.heap.size + 1) #[.int .i64 0, .int .i64 0, .string ⟨#[]⟩, .slice none 0 0, .slice none 0 0, .slice none 0 0, .int .i64 0] 31 by
    have hb := Blk.new (w.alloc (.cells #[.int .i64 ka, .int .i64 fa, .string ta, .slice A1 n1 m1, .slice A2 n2 m2, .slice A3 n3 m3] 26)) #[.int .i64 0, .int .i64 0, .string ⟨#[]⟩, .slice none 0 0, .slice none 0 0, .slice none 0 0, .int .i64 0] 31
    rw [show (w.alloc (.cells #[.int .i64 ka, .int .i64 fa, .string ta, .slice A1 n1 m1, .slice A2 n2 m2, .slice A3 n3 m3] 26)).heap.size = w.heap.size + 1 by simp] at hb
    exact hb)
  obtain ⟨ke, hke⟩ : ∃ x, x = (ofJ j).kind := ⟨_, rfl⟩
  obtain ⟨fe, hfe⟩ : ∃ x, x = (ofJ j).half := ⟨_, rfl⟩
  obtain ⟨te, hte⟩ : ∃ x, x = (ofJ j).text := ⟨_, rfl⟩
  have KE := Lib.hid hke
  have FE := Lib.hid hfe
  have TE := Lib.hid hte
  clear hke hfe hte
  go_enter Tryd.func16, Tryd.ntmps16
  go_wp2_with (first
    | (go_at_call 31; go_must (refine HC1.out.mono ?_; rintro e w2 ⟨x, rfl, hx, ho2⟩; have HX := Lib.hid hx; have HO2 := Lib.hid ho2; clear hx ho2))
    | (go_at_call 34; go_must (refine (HZ.out _ _ _ HX.out).mono ?_; rintro e w4 ⟨y, rfl, hy, ho4⟩; have HY := Lib.hid hy; have HO4 := Lib.hid ho4; clear hy ho4))
    | (go_at_call 32; go_must (refine (result_any HFR.out _ (fun _ => True) _ HY.out).mono ?_; rintro e w5 ⟨e0, e1, e2, e3, e4, e5, rfl, hv, ho5⟩; have HO5 := Lib.hid (HO.out.trans (HO2.out.trans (HO4.out.trans ho5))); have bx := RB.out.old (HO2.out.trans (HO4.out.trans ho5)); have x0 := bx.cell 0; have x1 := bx.cell 1; have x2 := bx.cell 2; have x3 := bx.cell 3; have x4 := bx.cell 4; have x5 := bx.cell 5; have x6 := bx.cell 6; have f0 := bx.frozen 0; have f1 := bx.frozen 1; have f2 := bx.frozen 2; have f3 := bx.frozen 3; have f4 := bx.frozen 4; have f5 := bx.frozen 5; have f6 := bx.frozen 6; have hbl := bx.lt; obtain ⟨E1, q1, r1, E2, q2, r2, E3, q3, r3, rfl, rfl, rfl, rfl, rfl, rfl⟩ := shape hv; rw [← KE.out, ← FE.out, ← TE.out] at hv ⊢; have HV := Lib.hid hv; clear hv ho5 bx)))
  refine bodyPost_ret (v := .agg #[.int .i64 ke, .int .i64 fe, .string te, .slice E1 q1 r1, .slice E2 q2 r2, .slice E3 q3 r3, .int .i64 0]) (by simp [results, Tryd.results16, go_sem, x0, x1, x2, x3, x4, x5, x6]) rfl ?_
  have hc := seven_stores w5 (w.heap.size + 1) (.int .i64 ke) (.int .i64 fe) (.string te) (.slice E1 q1 r1) (.slice E2 q2 r2) (.slice E3 q3 r3) (.int .i64 0)
  have hs := RB.out.lt
  have hsz := (HO2.out.trans HO4.out).size
  have hcl : ∀ b : Nat, w4.heap.size ≤ b → b ≠ w.heap.size + 1 ∧ w.heap.size ≤ b := fun b hb => by omega
  exact ⟨_, _, _, _, _, _, rfl, (HV.out.chg (Chg.mono hc fun b _ hb => (hcl b hb).1)).mono fun b hb _ => (hcl b hb).2, Old.chg_ HO5.out hc fun b hb => Nat.ne_of_lt (by omega)⟩


theorem zreverse_go (l : List J) (hl : l.length ≤ 1048576) (w : World) (ok : Nat → Prop) (x : Value) (h : KJ w ok (.arr l) x) : Calls Tryd.prog 34 #[x] w (GoAns w (.arr l.reverse)) := by
  have H := Lib.hid (reverse_go l hl w ok x h)
  clear h
  go_enter Tryd.func34, Tryd.ntmps34
  go_wp2_with (go_at_call 46; go_must (refine H.out.mono ?_; rintro e w2 ⟨y, rfl, hy, ho⟩; have HY := Lib.hid hy; have HO := Lib.hid ho; clear hy ho))
  go_ret
  exact ⟨_, rfl, HY.out, HO.out⟩
theorem reverse_any {l : List V} (hg : Good (V.arr l)) (w : World) (ok : Nat → Prop) (c0 c1 c2 c3 c4 c5 : Value) (hc : KV w ok (V.arr l) [c0, c1, c2, c3, c4, c5]) :
    Calls Tryd.prog 16 #[.agg #[c0, c1, c2, c3, c4, c5]] w (AltAns w (V.arr l.reverse)) := by
  obtain ⟨hl, hx⟩ := hg.of_arr
  have hjg : JGood (.arr (toJs l).reverse) := by
    refine .arr _ (by rw [List.length_reverse, toJs_map, List.length_map]; exact hl) fun x hx' => ?_
    rw [List.mem_reverse, toJs_map, List.mem_map] at hx'
    obtain ⟨y, hy, rfl⟩ := hx'
    exact toJ_good (hx y hy)
  have := reverse_door mapFromGo_any hg hjg (fun W ok x h => zreverse_go (toJs l) (by rw [toJs_map, List.length_map]; exact hl) W ok x (by rw [toJ_arr] at h; exact h)) w ok c0 c1 c2 c3 c4 c5 hc
  rw [ofJ_back hx] at this
  exact this

/-! ### The law's own small functions -/
theorem array_any (w : World) (A : Option Addr) (n c : Nat) : Calls Tryd.prog 14 #[.slice A n c] w fun e w' => e = .returned (.agg #[.int .i64 5, .int .i64 0, .string ⟨#[]⟩, .slice A n c, .slice none 0 0, .slice none 0 0]) ∧ Old w w' := by
  go_enter Tryd.func14, Tryd.ntmps14
  go_wp2
  refine bodyPost_ret (v := .agg #[.int .i64 5, .int .i64 0, .string ⟨#[]⟩, .slice A n c, .slice none 0 0, .slice none 0 0]) (by simp [results, Tryd.results14, go_sem]) rfl ?_
  exact ⟨rfl, (Old.refl w).alloc _⟩
theorem listed_any (w : World) (c1 c2 c3 c4 c5 : Value) (A : Option Addr) (n c : Nat) (h3 : c3 = .slice A n c) : Calls Tryd.prog 15 #[.agg #[.int .i64 5, c1, c2, c3, c4, c5, .int .i64 0]] w fun e w' => e = .returned (.tuple #[c3, .bool true]) ∧ Old w w' := by
  subst h3
  go_enter Tryd.func15, Tryd.ntmps15
  go_wp2
  go_region_held3 (fun w' => w'.cell? ⟨w.heap.size, 3, none⟩ = some (.slice A n c) ∧ w'.cell? ⟨w.heap.size, 6, none⟩ = some (.int .i64 0) ∧ w'.cell? ⟨w.heap.size, 0, none⟩ = some (.int .i64 5)) (go_keep) (fail)
  go_wp2
  go_ret2
  exact ⟨rfl, ((Old.refl w).alloc _).drew⟩

set_option maxHeartbeats 1000000 in
theorem fits_any {l : List V} (hz : ∀ x ∈ l, Sized x) (hl : l.length ≤ 9223372036854775807) (w : World) (ok : Nat → Prop) (v : Value) (h : KVs w ok l v) (hT : Tabs w) : Calls Tryd.prog 13 #[v] w (SizeAns w (∀ x ∈ l, Right x)) := by
  have H := Lib.hid h
  have HT := Lib.hid hT
  have HZ := Lib.hid hz
  obtain ⟨C, s, _⟩ := h
  obtain ⟨A, c, rfl, _⟩ := s.len
  clear s hz hT
  go_enter Tryd.func13, Tryd.ntmps13
  go_wp2
  go_loopg [7] l.length (fun gk s7 wr => ∃ k, k + gk = l.length ∧ s7 = .int .i64 k ∧ Old w wr ∧ ∀ j, j < k → Right (nth l j))
  case atStart => exact ⟨0, by simp, rfl, Old.refl w, fun j hj => absurd hj (by omega)⟩
  case round =>
    obtain ⟨k, hk, rfl, R, G⟩ := hrel
    have HK := Lib.hid hk
    by_cases hlt : k < l.length
    · have HR : KVs wr ok l (.slice A l.length c) := by
        obtain ⟨C, s, r⟩ := H.out
        exact ⟨C, s.old R, fun i hi => (r i hi).old R⟩
      obtain ⟨b, o, c0, c1, c2, c3, c4, c5, rfl, hb, hkv, e0, e1, e2, e3, e4, e5⟩ := six HR k hlt
      obtain ⟨A1, n1, m1, A2, n2, m2, A3, n3, m3, rfl, rfl, rfl, rfl, rfl, rfl⟩ := shape hkv
      have R0 := Lib.hid R
      have G0 := Lib.hid G
      have hsz := HZ.out (nth l k) (by rw [← nth_eq l k hlt]; exact List.getElem_mem hlt)
      have HSZ := Lib.hid hsz
      generalize hkd : (nth l k).kind = kd at *
      generalize hhf : (nth l k).half = hf at *
      generalize htx : (nth l k).text = tx at *
      clear hkd hhf htx
      have KV0 := Lib.hid (hkv.old ((Old.refl wr).alloc (.cells #[.int .i64 kd, .int .i64 hf, .string tx, .slice A1 n1 m1, .slice A2 n2 m2, .slice A3 n3 m3] 26)))
      clear HR R hkv G hsz
      go_wp2_with (go_at_call 18; refine (fit_any HSZ.out _ _ _ _ _ _ _ _ KV0.out (HT.out.old (R0.out.trans ((Old.refl wr).alloc _)))).mono ?_; rintro e w2 ⟨b2, rfl, ho, hr⟩; have R2 := Lib.hid ((R0.out.trans ((Old.refl wr).alloc _)).trans ho); have HR2 := Lib.hid hr; clear ho hr; cases b2)
      · go_ret
        exact ⟨_, rfl, R2.out, fun h => absurd h (by simp)⟩
      · go_roundg (gk - 1)
        case measure => omega
        case rel =>
          refine ⟨k + 1, by omega, by go_num, R2.out, fun j hj => ?_⟩
          by_cases he : j = k
          · subst he
            exact HR2.out trivial
          · exact G0.out j (by omega)
    · obtain rfl : k = l.length := by omega
      go_wp2
      go_ret
      refine ⟨_, rfl, R, fun _ x hx => ?_⟩
      obtain ⟨j, hj, rfl⟩ := List.getElem_of_mem hx
      rw [nth_eq]
      exact G j hj
end Go.Proofs.YtpoanncombcemaaDoor
