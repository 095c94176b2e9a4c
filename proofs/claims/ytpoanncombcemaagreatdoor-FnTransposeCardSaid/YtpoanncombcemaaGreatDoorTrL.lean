/-
  Transpose by its name, as the reference has it; and the program's, through the thin package's door.
  Conditions: the rows are right values.
-/
import Derived.Test.YtpoanncombcemaaGreatDoorTrS
import Derived.Test.YtpoanncombcemaaGreatDoorTrG
namespace Go.Proofs.YtpoanncombcemaaGreatDoor
open Go.RowKit

set_option maxHeartbeats 4000000 in
set_option maxRecDepth 100000 in
theorem array_gives {x : V} {how : Int} (w : World) (ok : Nat → Prop) (A : Option Addr) (n c : Nat) (hz : Calls Tryz.prog 98 #[.slice A n c] ((w.alloc (.cells #[.int .i64 5, .int .i64 0, .string nilS, .slice A n c, .slice none 0 0, .slice none 0 0] 27)).alloc (.cells #[.int .i64 0, .int .i64 0, .string ⟨#[]⟩, .slice none 0 0, .slice none 0 0, .slice none 0 0] 27)) (Gives (fun b => ok b ∧ b < w.heap.size) x how ((w.alloc (.cells #[.int .i64 5, .int .i64 0, .string nilS, .slice A n c, .slice none 0 0, .slice none 0 0] 27)).alloc (.cells #[.int .i64 0, .int .i64 0, .string ⟨#[]⟩, .slice none 0 0, .slice none 0 0, .slice none 0 0] 27)))) :
    Calls Tryz.prog 51 #[.string ⟨#[116, 114, 97, 110, 115, 112, 111, 115, 101]⟩, .agg #[.int .i64 5, .int .i64 0, .string nilS, .slice A n c, .slice none 0 0, .slice none 0 0]] w (Gives ok x how w) := by
  have HZ := Lib.hid hz
  have HO := Lib.hid (((Old.refl w).alloc (.cells #[.int .i64 5, .int .i64 0, .string nilS, .slice A n c, .slice none 0 0, .slice none 0 0] 27)).alloc (.cells #[.int .i64 0, .int .i64 0, .string ⟨#[]⟩, .slice none 0 0, .slice none 0 0, .slice none 0 0] 27))
  have RB := Lib.hid (show Blk ((w.alloc (.cells #[.int .i64 5, .int .i64 0, .string nilS, .slice A n c, .slice none 0 0, .slice none 0 0] 27)).alloc (.cells #[.int .i64 0, .int .i64 0, .string ⟨#[]⟩, .slice none 0 0, .slice none 0 0, .slice none 0 0] 27)) (w.heap.size + 1) #[.int .i64 0, .int .i64 0, .string ⟨#[]⟩, .slice none 0 0, .slice none 0 0, .slice none 0 0] 27 from Blk.new_ (by simp) _ _)
  clear hz
  obtain ⟨ke, hke⟩ : ∃ y, y = x.kind := ⟨_, rfl⟩
  obtain ⟨fe, hfe⟩ : ∃ y, y = x.half := ⟨_, rfl⟩
  obtain ⟨te, hte⟩ : ∃ y, y = x.text := ⟨_, rfl⟩
  have KE := Lib.hid hke
  have FE := Lib.hid hfe
  have TE := Lib.hid hte
  clear hke hfe hte
  go_enter Tryz.func51, Tryz.ntmps51
  go_wp2_with (go_at_call 98; go_must (refine HZ.out.mono ?_; rintro e w5 ⟨e0, e1, e2, e3, e4, e5, rfl, hk, ho⟩; have HO5 := Lib.hid ho; have bx := RB.out.old ho; have x0 := bx.cell 0; have x1 := bx.cell 1; have x2 := bx.cell 2; have x3 := bx.cell 3; have x4 := bx.cell 4; have x5 := bx.cell 5; have f0 := bx.frozen 0; have f1 := bx.frozen 1; have f2 := bx.frozen 2; have f3 := bx.frozen 3; have f4 := bx.frozen 4; have f5 := bx.frozen 5; have hbl := bx.lt; obtain ⟨E1, q1, r1, E2, q2, r2, E3, q3, r3, rfl, rfl, rfl, rfl, rfl, rfl⟩ := shape hk; rw [← KE.out, ← FE.out, ← TE.out] at hk ⊢; have HK := Lib.hid hk; clear hk ho bx))
  refine bodyPost_ret (v := .tuple #[.agg #[.int .i64 ke, .int .i64 fe, .string te, .slice E1 q1 r1, .slice E2 q2 r2, .slice E3 q3 r3], .int .i64 how]) (by simp [results, Tryz.results51, go_sem, x0, x1, x2, x3, x4, x5]) rfl ?_
  have hst := six_stores w5 (w.heap.size + 1) (.int .i64 ke) (.int .i64 fe) (.string te) (.slice E1 q1 r1) (.slice E2 q2 r2) (.slice E3 q3 r3)
  refine ⟨_, _, _, _, _, _, rfl, ?_, Old.chg_ (HO.out.trans HO5.out) hst fun b hb => Nat.ne_of_lt (by omega)⟩
  refine (HK.out.chg (Chg.mono hst fun b _ hb => ?_)).mono fun b hb _ => ?_
  · rcases hb with hb | hb <;> (try simp at hb) <;> omega
  · rcases hb with hb | hb
    · exact .inl hb.1
    · exact .inr (by (try simp at hb); omega)
theorem KV.listC {w : World} {ok : Nat → Prop} {l : List V} {c0 c1 c2 c3 c4 c5 : Value} (h : KV w ok (V.arr l) [c0, c1, c2, c3, c4, c5]) : KVs w ok l c3 := by
  obtain ⟨v1, v2, v3, C1, C3, e, s1, r1, s2, s3, r3⟩ := h.form
  injection e with e0 e; injection e with e1 e; injection e with e2 e; injection e with e3 e
  subst e3
  exact ⟨C1, s1, r1⟩
theorem transposed_gives {l : List V} (hl : l.length ≤ 1048576) (hrow : ∀ r ∈ l, r.list.length ≤ 1048576) (w : World) (ok : Nat → Prop) (v : Value) (h : KVs w ok l v) {x : V} {how : Int} (hx : (∀ r ∈ l, r.kind = 5) ∧ x = transV l ∧ how = 0 ∨ (¬ ∀ r ∈ l, r.kind = 5) ∧ x = V.null ∧ how = 2) :
    Calls Tryz.prog 98 #[v] w (Gives ok x how w) := by
  refine (transposed_any l hl hrow w ok v h).mono fun e w' ha => ?_
  rcases hx with ⟨h5, rfl, rfl⟩ | ⟨h5, rfl, rfl⟩
  · exact ha.elim And.right fun h => absurd h5 h.1
  · exact ha.elim (fun h => absurd h.1 h5) And.right
/-- Transpose by its name. -/
theorem call_tr {l : List V} (hg : Good (V.arr l)) (hl : l.length ≤ 1048576) (hrow : ∀ r ∈ l, r.list.length ≤ 1048576) (w : World) (ok : Nat → Prop) (A : Option Addr) (n c : Nat) (h : KVs w ok l (.slice A n c)) {x : V} {how : Int} (hx : (∀ r ∈ l, r.kind = 5) ∧ x = transV l ∧ how = 0 ∨ (¬ ∀ r ∈ l, r.kind = 5) ∧ x = V.null ∧ how = 2) :
    Calls Tryz.prog 9 #[.string ⟨#[116, 114, 97, 110, 115, 112, 111, 115, 101]⟩, .agg #[.int .i64 5, .int .i64 0, .string nilS, .slice A n c, .slice none 0 0, .slice none 0 0], .slice none 0 0] w (Gives ok x how w) :=
  call_transpose hg w ok _ _ _ _ _ _ (KV.arr h) fun W hW => alone_transpose W _ _ _ _ _ _ _ hW fun W2 hW2 => array_gives W2 _ A n c (transposed_gives hl hrow _ _ _ (by
    obtain ⟨C, s, r⟩ := hW2.bound.listC
    have ho := ((Old.refl W2).alloc (.cells #[.int .i64 5, .int .i64 0, .string nilS, .slice A n c, .slice none 0 0, .slice none 0 0] 27)).alloc (.cells #[.int .i64 0, .int .i64 0, .string ⟨#[]⟩, .slice none 0 0, .slice none 0 0, .slice none 0 0] 27)
    exact ⟨C, s.old ho, fun i hi => (r i hi).old ho⟩) hx)


theorem rowOf_toJ {v : V} (h : v.kind = 5) : rowOf (toJ v) = toJs v.list := by
  cases v
  simp only [V.kind] at h
  subst h
  simp [toJ, rowOf, V.list]
theorem toJ_null : toJ V.null = .nil := by simp [V.null, toJ]
theorem jth_toJs (l : List V) (i : Nat) : jth (toJs l) i = toJ (nth l i) := by
  by_cases h : i < l.length
  · exact jth_map l i h
  · rw [jth_none (by rw [toJs_map, List.length_map]; omega), nth_none (by omega), toJ_null]
theorem most_eq {l : List V} (h5 : ∀ r ∈ l, r.kind = 5) : ∀ i, i ≤ l.length → most (toJs l) i = mostV l i
  | 0, _ => rfl
  | i + 1, h => by
    simp only [most, mostV]
    rw [most_eq h5 i (by omega), jth_toJs, rowOf_toJ (h5 _ (by rw [← nth_eq l i (by omega)]; exact List.getElem_mem _)), toJs_map, List.length_map]
theorem good_nth {l : List V} (h : ∀ x ∈ l, Good x) (i : Nat) : Good (nth l i) := by
  by_cases hi : i < l.length
  · rw [← nth_eq l i hi]
    exact h _ (List.getElem_mem hi)
  · rw [nth_none (by omega)]
    exact .mk 0 0 nilS [] [] [] (by decide) (by decide) (.inr rfl) (.inr rfl) (.inr rfl) (.inr rfl) rfl ⟨by decide, by decide, .inl rfl⟩ ⟨by decide, by decide⟩ (by simp) (by simp) List.Pairwise.nil (fun _ h => by cases h) (fun _ h => by cases h) (fun _ h => by cases h)
theorem Good.arrs {l : List V} (hl : l.length ≤ 1048576) (h : ∀ x ∈ l, Good x) : Good (V.arr l) :=
  .mk 5 0 nilS l [] [] (by decide) (by decide) (.inr rfl) (.inr rfl) (.inl rfl) (.inr rfl) rfl ⟨by decide, by decide, .inl rfl⟩ ⟨by decide, by decide⟩ hl (by simp) List.Pairwise.nil (fun _ h => by cases h) h (fun _ h => by cases h)
theorem good_list {v : V} (h : Good v) : v.list.length ≤ 1048576 ∧ ∀ x ∈ v.list, Good x := by
  cases h
  exact ⟨by assumption, by assumption⟩
theorem trans_back {l : List V} (hg : ∀ x ∈ l, Good x) (h5 : ∀ r ∈ l, r.kind = 5) : ofJ (transJ (toJs l)) = transV l := by
  have hlen : (toJs l).length = l.length := by rw [toJs_map, List.length_map]
  unfold transJ transV
  rw [hlen, most_eq h5 _ (Nat.le_refl _)]
  simp only [ofJ, ofJs_map, List.map_map, V.arr]
  congr 1
  refine List.map_congr_left fun i _ => ?_
  simp only [Function.comp, ofJ, ofJs_map, colV, toJs_map, List.map_map]
  congr 1
  refine List.map_congr_left fun r hr => ?_
  simp only [Function.comp]
  rw [rowOf_toJ (h5 r hr), jth_toJs, ofJ_toJ (good_nth (good_list (hg r hr)).2 i)]
theorem transJ_good {l : List V} (hl : l.length ≤ 1048576) (hg : ∀ x ∈ l, Good x) (h5 : ∀ r ∈ l, r.kind = 5) : JGood (transJ (toJs l)) := by
  have hlen : (toJs l).length = l.length := by rw [toJs_map, List.length_map]
  unfold transJ
  rw [hlen, most_eq h5 _ (Nat.le_refl _)]
  refine .arr _ (by simpa using mostV_le l 1048576 (fun r hr => (good_list (hg r hr)).1) _) fun x hx => ?_
  obtain ⟨i, _, rfl⟩ := List.mem_map.1 hx
  refine .arr _ (by simpa [hlen] using hl) fun y hy => ?_
  obtain ⟨j, hj, rfl⟩ := List.mem_map.1 hy
  rw [toJs_map] at hj
  obtain ⟨r, hr, rfl⟩ := List.mem_map.1 hj
  rw [rowOf_toJ (h5 r hr), jth_toJs]
  exact toJ_good (good_nth (good_list (hg r hr)).2 i)
theorem trans_good {l : List V} (hl : l.length ≤ 1048576) (hg : ∀ x ∈ l, Good x) : Good (transV l) := by
  refine Good.arrs (by simpa using mostV_le l 1048576 (fun r hr => (good_list (hg r hr)).1) _) fun x hx => ?_
  obtain ⟨i, _, rfl⟩ := List.mem_map.1 hx
  refine Good.arrs (by simpa [colV] using hl) fun y hy => ?_
  obtain ⟨r, hr, rfl⟩ := List.mem_map.1 hy
  exact good_nth (good_list (hg r hr)).2 i
theorem ztranspose_go (L : List J) (hL : L.length ≤ 1048576) (hall : ∀ r ∈ L, ∃ l, r = .arr l) (hrow : ∀ r ∈ L, (rowOf r).length ≤ 1048576) (w : World) (ok : Nat → Prop) (x : Value) (h : KJ w ok (.arr L) x) : Calls Tryz.prog 33 #[x] w (GoAns w (transJ L)) := by
  have H := Lib.hid (transpose_go L hL hall hrow w ok x h)
  clear hL hall hrow h
  go_enter Tryz.func33, Tryz.ntmps33
  go_wp2_with (go_at_call 70; go_must (refine H.out.mono ?_; rintro e w2 ⟨y, rfl, hy, ho⟩; have HY := Lib.hid hy; have HO := Lib.hid ho; clear hy ho))
  go_ret
  exact ⟨_, rfl, HY.out, HO.out⟩

set_option maxHeartbeats 4000000 in
set_option maxRecDepth 100000 in
theorem transpose_door (hm : FromsM) {v : V} (hg : Good v) {j : J} (hj : JGood j) (hz : ∀ (W : World) (ok : Nat → Prop) (x : Value), KJ W ok (toJ v) x → Calls Tryz.prog 33 #[x] W (GoAns W j)) (w : World) (ok : Nat → Prop) (c0 c1 c2 c3 c4 c5 : Value) (hc : KV w ok v [c0, c1, c2, c3, c4, c5]) :
    Calls Tryz.prog 11 #[.agg #[c0, c1, c2, c3, c4, c5]] w (AltAns w (ofJ j)) := by
  have HFR := Lib.hid (fromGo_any hm hj)
  have TA := Lib.hid (toGo_any hg)
  have C := Lib.hid hc
  have HZ := Lib.hid hz
  obtain ⟨A1, n1, m1, A2, n2, m2, A3, n3, m3, rfl, rfl, rfl, rfl, rfl, rfl⟩ := shape hc
  generalize v.kind = ka at *
  generalize v.half = fa at *
  generalize v.text = ta at *
  have ho := ((Old.refl w).alloc (.cells #[.int .i64 ka, .int .i64 fa, .string ta, .slice A1 n1 m1, .slice A2 n2 m2, .slice A3 n3 m3] 27)).alloc (.cells #[.int .i64 0, .int .i64 0, .string ⟨#[]⟩, .slice none 0 0, .slice none 0 0, .slice none 0 0, .int .i64 0] 34)
  have HC1 := Lib.hid (TA.out _ ok _ _ _ _ _ _ (C.out.old ho))
  have HO := Lib.hid ho
  clear hc hm ho hz hg hj
  have RB := Lib.hid (show Blk ((w.alloc (.cells #[.int .i64 ka, .int .i64 fa, .string ta, .slice A1 n1 m1, .slice A2 n2 m2, .slice A3 n3 m3] 27)).alloc (.cells #[.int .i64 0, .int .i64 0, .string ⟨#[]⟩, .slice none 0 0, .slice none 0 0, .slice none 0 0, .int .i64 0] 34)) (w.heap.size + 1) #[.int .i64 0, .int .i64 0, .string ⟨#[]⟩, .slice none 0 0, .slice none 0 0, .slice none 0 0, .int .i64 0] 34 by
    have hb := Blk.new (w.alloc (.cells #[.int .i64 ka, .int .i64 fa, .string ta, .slice A1 n1 m1, .slice A2 n2 m2, .slice A3 n3 m3] 27)) #[.int .i64 0, .int .i64 0, .string ⟨#[]⟩, .slice none 0 0, .slice none 0 0, .slice none 0 0, .int .i64 0] 34
    rw [show (w.alloc (.cells #[.int .i64 ka, .int .i64 fa, .string ta, .slice A1 n1 m1, .slice A2 n2 m2, .slice A3 n3 m3] 27)).heap.size = w.heap.size + 1 by simp] at hb
    exact hb)
  obtain ⟨ke, hke⟩ : ∃ x, x = (ofJ j).kind := ⟨_, rfl⟩
  obtain ⟨fe, hfe⟩ : ∃ x, x = (ofJ j).half := ⟨_, rfl⟩
  obtain ⟨te, hte⟩ : ∃ x, x = (ofJ j).text := ⟨_, rfl⟩
  have KE := Lib.hid hke
  have FE := Lib.hid hfe
  have TE := Lib.hid hte
  clear hke hfe hte
  go_enter Tryz.func11, Tryz.ntmps11
  go_wp2_with (first
    | (go_at_call 31; go_must (refine HC1.out.mono ?_; rintro e w2 ⟨x, rfl, hx, ho2⟩; have HX := Lib.hid hx; have HO2 := Lib.hid ho2; clear hx ho2))
    | (go_at_call 33; go_must (refine (HZ.out _ _ _ HX.out).mono ?_; rintro e w4 ⟨y, rfl, hy, ho4⟩; have HY := Lib.hid hy; have HO4 := Lib.hid ho4; clear hy ho4))
    | (go_at_call 32; go_must (refine (result_any HFR.out _ (fun _ => True) _ HY.out).mono ?_; rintro e w5 ⟨e0, e1, e2, e3, e4, e5, rfl, hv, ho5⟩; have HO5 := Lib.hid (HO.out.trans (HO2.out.trans (HO4.out.trans ho5))); have bx := RB.out.old (HO2.out.trans (HO4.out.trans ho5)); have x0 := bx.cell 0; have x1 := bx.cell 1; have x2 := bx.cell 2; have x3 := bx.cell 3; have x4 := bx.cell 4; have x5 := bx.cell 5; have x6 := bx.cell 6; have f0 := bx.frozen 0; have f1 := bx.frozen 1; have f2 := bx.frozen 2; have f3 := bx.frozen 3; have f4 := bx.frozen 4; have f5 := bx.frozen 5; have f6 := bx.frozen 6; have hbl := bx.lt; obtain ⟨E1, q1, r1, E2, q2, r2, E3, q3, r3, rfl, rfl, rfl, rfl, rfl, rfl⟩ := shape hv; rw [← KE.out, ← FE.out, ← TE.out] at hv ⊢; have HV := Lib.hid hv; clear hv ho5 bx)))
  refine bodyPost_ret (v := .agg #[.int .i64 ke, .int .i64 fe, .string te, .slice E1 q1 r1, .slice E2 q2 r2, .slice E3 q3 r3, .int .i64 0]) (by simp [results, Tryz.results11, go_sem, x0, x1, x2, x3, x4, x5, x6]) rfl ?_
  have hc := seven_stores w5 (w.heap.size + 1) (.int .i64 ke) (.int .i64 fe) (.string te) (.slice E1 q1 r1) (.slice E2 q2 r2) (.slice E3 q3 r3) (.int .i64 0)
  have hs := RB.out.lt
  have hsz := (HO2.out.trans HO4.out).size
  have hcl : ∀ b : Nat, w4.heap.size ≤ b → b ≠ w.heap.size + 1 ∧ w.heap.size ≤ b := fun b hb => by omega
  exact ⟨_, _, _, _, _, _, rfl, (HV.out.chg (Chg.mono hc fun b _ hb => (hcl b hb).1)).mono fun b hb _ => (hcl b hb).2, Old.chg_ HO5.out hc fun b hb => Nat.ne_of_lt (by omega)⟩


theorem transpose_fine {l : List V} (hg : Good (V.arr l)) (h5 : ∀ r ∈ l, r.kind = 5) (w : World) (ok : Nat → Prop) (c0 c1 c2 c3 c4 c5 : Value) (hc : KV w ok (V.arr l) [c0, c1, c2, c3, c4, c5]) :
    Calls Tryz.prog 11 #[.agg #[c0, c1, c2, c3, c4, c5]] w (AltAns w (transV l)) := by
  obtain ⟨hl, gl⟩ := good_list hg
  have hback : ofJ (transJ (toJs l)) = transV l := trans_back gl h5
  have hj : JGood (transJ (toJs l)) := transJ_good hl gl h5
  have := transpose_door mapFromGo_any hg hj (fun W ok x h => ztranspose_go (toJs l) (by rw [toJs_map, List.length_map]; exact hl) (fun r hr => by
    rw [toJs_map] at hr
    obtain ⟨y, hy, rfl⟩ := List.mem_map.1 hr
    have := h5 y hy
    cases y
    simp only [V.kind] at this
    subst this
    exact ⟨_, by simp only [toJ]; rfl⟩) (fun r hr => by
    rw [toJs_map] at hr
    obtain ⟨y, hy, rfl⟩ := List.mem_map.1 hr
    rw [rowOf_toJ (h5 y hy), toJs_map, List.length_map]
    exact (good_list (gl y hy)).1) W ok x (by simpa [V.arr, toJ] using h)) w ok c0 c1 c2 c3 c4 c5 hc
  rw [hback] at this
  exact this
end Go.Proofs.YtpoanncombcemaaGreatDoor
