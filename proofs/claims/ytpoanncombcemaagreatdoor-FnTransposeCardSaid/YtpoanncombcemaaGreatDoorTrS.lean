/-
  Rows to columns, as the reference has it: the walk.
  Conditions: the elements are right values.
-/
import Derived.Test.YtpoanncombcemaaGreatDoorZBase
import Derived.Test.YtpoanncombcemaaGreatDoorCall
namespace Go.Proofs.YtpoanncombcemaaGreatDoor
open Go.RowKit

/-- A row of the call's own of values: its elements' blocks are never its own. -/
structure RowV (wr : World) (N : Nat) (K : Nat → Prop) (l : List V) (k : Nat) (v : Value) (xs : List Value) : Prop where
  row : wr.ownsRow N 27 6 v k xs
  each : ∀ j, j < k → KV wr (fun b => K b ∧ b < wr.heap.size ∧ some b ≠ v.ownBlock) (nth l j) ((xs.drop (j * 6)).take 6)
theorem RowV.nil (wr : World) (N : Nat) (K : Nat → Prop) (l : List V) : RowV wr N K l 0 (.slice none 0 0) [] := ⟨⟨rfl, .inl ⟨rfl, rfl⟩⟩, fun j hj => absurd hj (by omega)⟩
theorem RowV.old {wr w2 : World} {N : Nat} {K : Nat → Prop} {l : List V} {k : Nat} {v : Value} {xs : List Value} (h : RowV wr N K l k v xs) (ho : Old wr w2) : RowV w2 N K l k v xs :=
  ⟨own_old h.row ho, fun j hj => ((h.each j hj).old ho).mono fun b hb _ => ⟨hb.1, by have := ho.size; omega, hb.2.2⟩⟩
theorem RowV.put {w2 w2' w3 : World} {N : Nat} {K : Nat → Prop} {l : List V} {k g cap : Nat} {v : Value} {xs news : List Value} (h : RowV w2 N K l k v xs) (hv : KV w2 (fun b => K b ∧ some b ≠ v.ownBlock) (nth l k) news) (ho : Old w2 w2')
    (hown : w3.ownsRow N 27 6 (.slice (some ⟨g, 0, none⟩) (k + 1) cap) (k + 1) (xs ++ news)) (hgrow : w2'.grownBy w3 v.ownBlock) (hat : v.ownBlock = some g ∨ g = w2'.heap.size) :
    RowV w3 N K l (k + 1) (.slice (some ⟨g, 0, none⟩) (k + 1) cap) (xs ++ news) := by
  have hlen : xs.length = k * 6 := h.row.1
  have hn6 := hv.length
  have h2 := ho.size
  have h3 := hgrow.size
  have hc : Chg (fun b => some b ≠ v.ownBlock) w2 w3 := Chg.grown (ok := fun b => some b ≠ v.ownBlock) ho.chg hgrow fun _ _ ho => ho
  have hne : ∀ b, b < w2.heap.size → some b ≠ v.ownBlock → some b ≠ (Value.slice (some ⟨g, 0, none⟩) (k + 1) cap).ownBlock := fun b hb hn e => by
    have hbg : b = g := by simpa [Value.ownBlock] using e
    rcases hat with hat | hat
    · exact hn (by rw [hat, hbg])
    · omega
  refine ⟨hown, fun j hj => ?_⟩
  by_cases hjk : j = k
  · subst hjk
    have e : ((xs ++ news).drop (j * 6)).take 6 = news := by
      rw [← hlen, List.drop_left]
      exact List.take_of_length_le (by omega)
    rw [e]
    exact (hv.bound.chg (Chg.mono hc fun b hb ho => ho.1.2)).mono fun b hb _ => ⟨hb.1.1, by omega, hne b hb.2 hb.1.2⟩
  · have hjk' : j < k := by omega
    have e : ((xs ++ news).drop (j * 6)).take 6 = (xs.drop (j * 6)).take 6 := by
      rw [List.drop_append_of_le_length (by omega), List.take_append_of_le_length (by rw [List.length_drop]; omega)]
    rw [e]
    exact ((h.each j hjk').chg (Chg.mono hc fun b hb ho => ho.2.2)).mono fun b hb _ => ⟨hb.1, by omega, hne b hb.2.1 hb.2.2⟩
theorem RowV.done {wr : World} {N k : Nat} {K : Nat → Prop} {l : List V} {v : Value} {xs : List Value} (h : RowV wr N K l k v xs) (hk : k = l.length) : KVs wr (fun b => K b ∨ N ≤ b) l v := by
  subst hk
  have hlen : xs.length = l.length * 6 := h.row.1
  refine ⟨fun j => (xs.drop (j * 6)).take 6, ?_, fun i hi => ?_⟩
  · refine SliceV.of_own h.row (fun b hb => .inr (own_lt h.row hb).1) fun i hi => ⟨?_, fun j hj => ?_⟩
    · rw [List.length_take, List.length_drop]
      omega
    · rw [List.getElem?_take_of_lt hj, List.getElem?_drop]
  · rw [nth_eq]
    exact (h.each i hi).mono fun b hb _ => .inl hb.1
theorem KV.arr {w : World} {ok : Nat → Prop} {l : List V} {v : Value} (h : KVs w ok l v) : KV w ok (V.arr l) [.int .i64 5, .int .i64 0, .string nilS, v, .slice none 0 0, .slice none 0 0] := by
  obtain ⟨C, s, r⟩ := h
  exact .mk 5 0 nilS l [] [] _ _ _ C (fun _ => []) s r (SliceV.nil _ _ _ _) (SliceV.nil _ _ _ _) (fun i hi => absurd hi (by simp))
theorem arrays_any (w : World) (A : Option Addr) (n c : Nat) : Calls Tryz.prog 25 #[.slice A n c] w fun e w' => e = .returned (.agg #[.int .i64 5, .int .i64 0, .string ⟨#[]⟩, .slice A n c, .slice none 0 0, .slice none 0 0]) ∧ Old w w' := by
  go_enter Tryz.func25, Tryz.ntmps25
  go_wp2
  refine bodyPost_ret (v := .agg #[.int .i64 5, .int .i64 0, .string ⟨#[]⟩, .slice A n c, .slice none 0 0, .slice none 0 0]) (by simp [results, Tryz.results25, go_sem]) rfl ?_
  exact ⟨rfl, (Old.refl w).alloc _⟩

/-- The longest of the first k rows. -/
def mostV (l : List V) : Nat → Nat
  | 0 => 0
  | k + 1 => max (mostV l k) (nth l k).list.length
def colV (l : List V) (i : Nat) : List V := l.map fun r => nth r.list i
def transV (l : List V) : V := V.arr ((List.range (mostV l l.length)).map fun i => V.arr (colV l i))
theorem mostV_le (l : List V) (b : Nat) (h : ∀ r ∈ l, r.list.length ≤ b) : ∀ i, mostV l i ≤ b
  | 0 => Nat.zero_le _
  | i + 1 => by
    have := mostV_le l b h i
    have h2 : (nth l i).list.length ≤ b := by
      by_cases hi : i < l.length
      · rw [← nth_eq l i hi]
        exact h _ (List.getElem_mem hi)
      · simp [nth, List.getD_eq_getElem?_getD, List.getElem?_eq_none (by omega : l.length ≤ i), V.null, V.list]
    simp only [mostV]
    omega
theorem colV_nth {l : List V} {i j : Nat} (h : j < l.length) : nth (colV l i) j = nth (nth l j).list i := by simp [colV, nth, h]
theorem nth_none {l : List V} {i : Nat} (h : l.length ≤ i) : nth l i = V.null := by simp [nth, List.getD_eq_getElem?_getD, List.getElem?_eq_none h]
/-- What a row's cells are. -/
theorem KV.rowC {w : World} {ok : Nat → Prop} {v : V} {c0 c1 c2 c3 c4 c5 : Value} (h : KV w ok v [c0, c1, c2, c3, c4, c5]) : ∃ A n c, c3 = .slice A n c ∧ n = v.list.length ∧ KVs w ok v.list (.slice A n c) := by
  cases h with
  | mk k h t l ks vs v1 v2 v3 C1 C3 s1 r1 s2 s3 r3 =>
    obtain ⟨A, c, rfl, _⟩ := s1.len
    exact ⟨A, _, c, rfl, rfl, C1, s1, r1⟩

/-- The answer: the columns, or that the manual is silent. -/
def TrAns (ok : Nat → Prop) (l : List V) (w : World) (e : Ending) (w' : World) : Prop :=
  ((∀ r ∈ l, r.kind = 5) ∧ Gives ok (transV l) 0 w e w') ∨ ((¬ ∀ r ∈ l, r.kind = 5) ∧ Gives ok V.null 2 w e w')
set_option maxHeartbeats 4000000 in
set_option maxRecDepth 100000 in
theorem transposed_any (l : List V) (hl : l.length ≤ 1048576) (hrow : ∀ r ∈ l, r.list.length ≤ 1048576) (w : World) (ok : Nat → Prop) (v : Value) (h : KVs w ok l v) : Calls Tryz.prog 98 #[v] w (TrAns ok l w) := by
  have HB := Lib.hid (show KVs w (fun b => ok b ∧ b < w.heap.size) l v by
    obtain ⟨C, s, r⟩ := h
    exact ⟨C, s.mono fun b ho hb => ⟨ho, hb⟩, fun i hi => (r i hi).bound⟩)
  obtain ⟨C, s, _⟩ := h
  obtain ⟨A, c, rfl, hcap⟩ := s.len
  have ML := Lib.hid (mostV_le l 1048576 hrow)
  have HR := Lib.hid hrow
  clear s hrow
  obtain ⟨iv, hi, hz0, hz1, hz2⟩ := info_parts Tryz.infoVal
  have HI := Lib.hid hi
  have HZ0 := Lib.hid hz0
  have HZ1 := Lib.hid hz1
  have HZ2 := Lib.hid hz2
  clear hi hz0 hz1 hz2
  have RB := Lib.hid (Blk.new w #[.int .i64 0, .int .i64 0, .string ⟨#[]⟩, .slice none 0 0, .slice none 0 0, .slice none 0 0] 27)
  go_enter Tryz.func98, Tryz.ntmps98
  go_wp2
  go_loopg [4, 15] l.length (fun gk s4 s15 wr => ∃ k, k + gk = l.length ∧ s4 = .int .i64 (mostV l k : Nat) ∧ s15 = .int .i64 (k : Nat) ∧ Old (w.alloc (.cells #[.int .i64 0, .int .i64 0, .string ⟨#[]⟩, .slice none 0 0, .slice none 0 0, .slice none 0 0] 27)) wr ∧ ∀ j, j < k → (nth l j).kind = 5)
  case atStart => exact ⟨0, by simp, rfl, rfl, Old.refl _, fun j hj => absurd hj (by omega)⟩
  case round =>
    obtain ⟨k, hk, rfl, rfl, R, G⟩ := hrel
    have R0 := Lib.hid R
    have G0 := Lib.hid G
    have hmk := ML.out k
    by_cases hlt : k < l.length
    · have HW : KVs wr (fun b => ok b ∧ b < w.heap.size) l (.slice A l.length c) := by
        obtain ⟨C, s, r⟩ := HB.out
        exact ⟨C, s.old (((Old.refl w).alloc _).trans R), fun i hi => (r i hi).old (((Old.refl w).alloc _).trans R)⟩
      obtain ⟨b, o, c0, c1, c2, c3, c4, c5, rfl, hb, hkv, e0, e1, e2, e3, e4, e5⟩ := six HW k hlt
      obtain ⟨A1, n1, m1, he3, hn1, hrw⟩ := hkv.rowC
      obtain ⟨B1, p1, q1, B2, p2, q2, B3, p3, q3, rfl, rfl, rfl, rfl, rfl, rfl⟩ := shape hkv
      cases he3
      have hn1l : n1 ≤ 1048576 := by rw [hn1]; exact HR.out _ (by rw [← nth_eq l k hlt]; exact List.getElem_mem hlt)
      have HN1 := Lib.hid hn1
      have hkd : (nth l k).kind = 5 ∨ (nth l k).kind ≠ 5 := by omega
      have bx := RB.out.old R
      have x0 := bx.cell 0; have x1 := bx.cell 1; have x2 := bx.cell 2; have x3 := bx.cell 3; have x4 := bx.cell 4; have x5 := bx.cell 5
      have f0 := bx.frozen 0; have f1 := bx.frozen 1; have f2 := bx.frozen 2; have f3 := bx.frozen 3; have f4 := bx.frozen 4; have f5 := bx.frozen 5
      have hbl := bx.lt
      generalize hkk : (nth l k).kind = kd at *
      generalize hff : (nth l k).half = hf at *
      generalize htt : (nth l k).text = tx at *
      have HKK := Lib.hid hkk
      clear hkk hff htt HW R G hkv hrw hn1 bx
      rcases hkd with rfl | hne
      · go_wp2
        go_roundg (gk - 1)
        case measure => omega
        case rel => exact ⟨k + 1, by omega, by simp only [mostV]; rw [← HN1.out]; congr 1; omega, by go_num, R0.out.alloc _, fun j hj => (Nat.lt_succ_iff_lt_or_eq.1 hj).elim (G0.out j) fun e => by rw [e]; exact HKK.out⟩
      · go_wp2
        refine bodyPost_ret (v := .tuple #[.agg #[.int .i64 0, .int .i64 0, .string ⟨#[]⟩, .slice none 0 0, .slice none 0 0, .slice none 0 0], .int .i64 2]) (by simp [results, Tryz.results98, go_sem, x0, x1, x2, x3, x4, x5, hbl]) rfl ?_
        refine .inr ⟨fun h5 => hne (by rw [← HKK.out, ← nth_eq l k hlt]; exact h5 _ (List.getElem_mem hlt)), _, _, _, _, _, _, rfl, KV.null _ _, ?_⟩
        exact (((((((((Old.refl w).alloc _).trans R0.out).setCell (Nat.le_refl _) _).setCell (Nat.le_refl _) _).setCell (Nat.le_refl _) _).setCell (Nat.le_refl _) _).setCell (Nat.le_refl _) _).setCell (Nat.le_refl _) _).alloc _
    · obtain rfl : k = l.length := by omega
      clear R G
      obtain ⟨N, hN⟩ : ∃ N, N = mostV l l.length := ⟨_, rfl⟩
      rw [← hN] at hmk ⊢
      have HN := Lib.hid hN
      clear hN
      go_wp2
      go_loopg [7, 30] N (fun gk s7 s30 wr => ∃ i v xs, i + gk = N ∧ s7 = v ∧ s30 = .int .i64 (i : Nat) ∧ Old (w.alloc (.cells #[.int .i64 0, .int .i64 0, .string ⟨#[]⟩, .slice none 0 0, .slice none 0 0, .slice none 0 0] 27)) wr ∧ RowV wr (w.heap.size + 1) (fun b => (ok b ∧ b < w.heap.size) ∨ w.heap.size + 1 ≤ b) ((List.range N).map fun i => V.arr (colV l i)) i v xs)
      case atStart => exact ⟨0, _, _, by simp, rfl, rfl, R0.out, RowV.nil _ _ _ _⟩
      case round =>
        obtain ⟨i, v7, xs7, hi, rfl, rfl, R, O7⟩ := hrel
        obtain ⟨A7, c7, rfl⟩ := own_len O7.row
        have R1 := Lib.hid R
        have O71 := Lib.hid O7
        clear R O7
        by_cases hlt : i < N
        · obtain ⟨gi, rfl⟩ : ∃ g, g = gk := ⟨_, rfl⟩
          obtain ⟨wo, rfl⟩ : ∃ x, x = wr := ⟨_, rfl⟩
          have hw1 : w.heap.size < wo.heap.size := by have := R1.out.size; simp at this; omega
          go_wp2
          go_loopg [9, 35] l.length (fun gk s9 s35 wr => ∃ j v xs, j + gk = l.length ∧ s9 = v ∧ s35 = .int .i64 (j : Nat) ∧ Old wo wr ∧ RowV wr wo.heap.size (fun b => ok b ∧ b < w.heap.size) (colV l i) j v xs)
          case atStart => exact ⟨0, _, _, by simp, rfl, rfl, Old.refl _, RowV.nil _ _ _ _⟩
          case round =>
            obtain ⟨j, v9, xs9, hj, rfl, rfl, R, O9⟩ := hrel
            obtain ⟨A9, c9, rfl⟩ := own_len O9.row
            have R2 := Lib.hid R
            have hwo : wo.heap.size ≤ wr.heap.size := R.size
            have O91 := Lib.hid O9
            by_cases hlj : j < l.length
            · have HW : KVs wr (fun b => ok b ∧ b < w.heap.size) l (.slice A l.length c) := by
                obtain ⟨C, s, r⟩ := HB.out
                have ho := (((Old.refl w).alloc _).trans R1.out).trans R
                exact ⟨C, s.old ho, fun i hi => (r i hi).old ho⟩
              obtain ⟨b, o, c0, c1, c2, c3, c4, c5, rfl, hb, hkv, e0, e1, e2, e3, e4, e5⟩ := six HW j hlj
              obtain ⟨A1, n1, m1, he3, hn1, hrw⟩ := hkv.rowC
              obtain ⟨B1, p1, q1, B2, p2, q2, B3, p3, q3, rfl, rfl, rfl, rfl, rfl, rfl⟩ := shape hkv
              cases he3
              have HN1 := Lib.hid hn1
              have HRW := Lib.hid hrw
              generalize (nth l j).kind = kd at *
              generalize (nth l j).half = hf at *
              generalize (nth l j).text = tx at *
              clear HW R O9 hkv hrw hn1
              by_cases hin : i < n1
              · obtain ⟨b8, o8, d0, d1, d2, d3, d4, d5, rfl, hb8, hk8, g0, g1, g2, g3, g4, g5⟩ := six HRW.out i (by rw [← HN1.out]; exact hin)
                obtain ⟨D1, s1, t1, D2, s2, t2, D3, s3, t3, rfl, rfl, rfl, rfl, rfl, rfl⟩ := shape hk8
                obtain ⟨el, hel⟩ : ∃ x, x = nth (nth l j).list i := ⟨_, rfl⟩
                rw [← hel] at hk8 g0 g1 g2
                have he9 : nth (colV l i) j = el := by rw [colV_nth hlj, hel]
                have HEL := Lib.hid he9
                clear hel he9
                generalize el.kind = kx at *
                generalize el.half = hx at *
                generalize el.text = tx2 at *
                have hk9 : KV wr (fun b => ok b ∧ b < w.heap.size) (nth (colV l i) j) [.int .i64 kx, .int .i64 hx, .string tx2, .slice D1 s1 t1, .slice D2 s2 t2, .slice D3 s3 t3] := by
                  rw [HEL.out]
                  exact hk8
                have HK8 := Lib.hid hk9
                clear hk9
                clear hk8
                go_wp2_with (at_builtin; go_must (refine wpList_append_lies _ rfl _ _ _ rfl wo.heap.size 27 iv _ 6 104 Tryz.underlying22 HI.out HZ0.out HZ1.out HZ2.out rfl (by decide) (.slice A9 j c9) j xs9 rfl (own_old O91.out.row (((Old.refl _).alloc _).alloc _ |>.alloc _)) ⟨wr.heap.size + 2, 0, none⟩ 1 1 [.int .i64 kx, .int .i64 hx, .string tx2, .slice D1 s1 t1, .slice D2 s2 t2, .slice D3 s3 t3] rfl rfl (news_six (by simp) _ _) (one_six HK8.out) (by decide) (by unfold maxLen; omega) (by omega) (by simp; omega) (wr.heap.size + 3) (by simp) ?_; intro g cap w3 hown hgrow hat hlt3; have HP := Lib.hid (O91.out.put ((HK8.out).mono (ok' := fun b => (ok b ∧ b < w.heap.size) ∧ some b ≠ (Value.slice A9 j c9).ownBlock) fun b hb _ => ⟨hb, fun e => by have := own_lt O91.out.row e.symm; omega⟩) (((Old.refl _).alloc _).alloc _ |>.alloc _) hown hgrow (by simpa using hat)); have HO3 := Lib.hid ((((R2.out.alloc _).alloc _).alloc _).grown hgrow fun k hk => (own_lt O91.out.row hk).1); clear hown hgrow hat))
                go_roundg (gk - 1)
                case measure => omega
                case rel => exact ⟨j + 1, _, _, by omega, rfl, by go_num, HO3.out, HP.out⟩
              · have hk9 : KV wr (fun b => ok b ∧ b < w.heap.size) (nth (colV l i) j) [.int .i64 0, .int .i64 0, .string ⟨#[]⟩, .slice none 0 0, .slice none 0 0, .slice none 0 0] := by
                  rw [colV_nth hlj, nth_none (by rw [← HN1.out]; omega)]
                  exact KV.null _ _
                have HK8 := Lib.hid hk9
                clear hk9
                go_wp2_with (at_builtin; go_must (refine wpList_append_lies _ rfl _ _ _ rfl wo.heap.size 27 iv _ 6 104 Tryz.underlying22 HI.out HZ0.out HZ1.out HZ2.out rfl (by decide) (.slice A9 j c9) j xs9 rfl (own_old O91.out.row (((Old.refl _).alloc _).alloc _ |>.alloc _)) ⟨wr.heap.size + 2, 0, none⟩ 1 1 [.int .i64 0, .int .i64 0, .string ⟨#[]⟩, .slice none 0 0, .slice none 0 0, .slice none 0 0] rfl rfl (news_six (by simp) _ _) (one_six HK8.out) (by decide) (by unfold maxLen; omega) (by omega) (by simp; omega) (wr.heap.size + 3) (by simp) ?_; intro g cap w3 hown hgrow hat hlt3; have HP := Lib.hid (O91.out.put ((HK8.out).mono (ok' := fun b => (ok b ∧ b < w.heap.size) ∧ some b ≠ (Value.slice A9 j c9).ownBlock) fun b hb _ => ⟨hb, fun e => by have := own_lt O91.out.row e.symm; omega⟩) (((Old.refl _).alloc _).alloc _ |>.alloc _) hown hgrow (by simpa using hat)); have HO3 := Lib.hid ((((R2.out.alloc _).alloc _).alloc _).grown hgrow fun k hk => (own_lt O91.out.row hk).1); clear hown hgrow hat))
                go_roundg (gk - 1)
                case measure => omega
                case rel => exact ⟨j + 1, _, _, by omega, rfl, by go_num, HO3.out, HP.out⟩
            · obtain rfl : j = l.length := by omega
              clear R O9
              have HD := Lib.hid (O91.out.done (by simp [colV]))
              have hnl : nth ((List.range N).map fun i => V.arr (colV l i)) i = V.arr (colV l i) := by simp [nth, hlt]
              have HNL := Lib.hid hnl
              clear hnl
              go_wp2_with (first
                | (go_at_call 25; go_must (refine (arrays_any _ _ _ _).mono ?_; rintro e w4 ⟨rfl, ho⟩; have HO4 := Lib.hid ho; have hsz4 := ho.size; clear ho))
                | (at_builtin; go_must (refine wpList_append_lies _ rfl _ _ _ rfl (w.heap.size + 1) 27 iv _ 6 104 Tryz.underlying22 HI.out HZ0.out HZ1.out HZ2.out rfl (by decide) (.slice A7 i c7) i xs7 rfl (own_old O71.out.row (R2.out.trans (HO4.out.trans ((Old.refl _).alloc _)))) ⟨w4.heap.size, 0, none⟩ 1 1 [.int .i64 5, .int .i64 0, .string ⟨#[]⟩, .slice A9 l.length c9, .slice none 0 0, .slice none 0 0] rfl rfl (news_six rfl _ _) (one_six (KV.arr HD.out)) (by decide) (by unfold maxLen; omega) (by omega) (by simp; omega) (w4.heap.size + 1) (by simp) ?_; intro g cap w3 hown hgrow hat hlt3; have HP := Lib.hid ((O71.out.old (R2.out.trans HO4.out)).put (by rw [HNL.out]; exact ((KV.arr HD.out).old HO4.out).mono fun b hb _ => ⟨hb.elim .inl fun hb => .inr (by omega), fun e => by have := own_lt O71.out.row e.symm; rcases hb with hb | hb <;> omega⟩) ((Old.refl _).alloc _) hown hgrow (by simpa using hat)); have HO5 := Lib.hid (((R1.out.trans (R2.out.trans HO4.out)).alloc _).grown hgrow fun k hk => by have := (own_lt O71.out.row hk).1; simp; omega); clear hown hgrow hat)))
              go_roundg (gi - 1)
              case measure => omega
              case rel => exact ⟨i + 1, _, _, by omega, rfl, by go_num, HO5.out, HP.out⟩
        · obtain rfl : i = N := by omega
          have HD := Lib.hid (O71.out.done (by simp))
          go_wp2_with (go_at_call 25; go_must (refine (arrays_any _ _ _ _).mono ?_; rintro e w4 ⟨rfl, ho⟩; have HO4 := Lib.hid ho; have bx := RB.out.old (R1.out.trans ho); have x0 := bx.cell 0; have x1 := bx.cell 1; have x2 := bx.cell 2; have x3 := bx.cell 3; have x4 := bx.cell 4; have x5 := bx.cell 5; have f0 := bx.frozen 0; have f1 := bx.frozen 1; have f2 := bx.frozen 2; have f3 := bx.frozen 3; have f4 := bx.frozen 4; have f5 := bx.frozen 5; have hbl := bx.lt; clear ho bx))
          refine bodyPost_ret (v := .tuple #[.agg #[.int .i64 5, .int .i64 0, .string ⟨#[]⟩, .slice A7 i c7, .slice none 0 0, .slice none 0 0], .int .i64 0]) (by simp [results, Tryz.results98, go_sem, x0, x1, x2, x3, x4, x5]) rfl ?_
          have hst := six_stores w4 w.heap.size (.int .i64 5) (.int .i64 0) (.string ⟨#[]⟩) (.slice A7 i c7) (.slice none 0 0) (.slice none 0 0)
          refine .inl ⟨fun r hr => ?_, _, _, _, _, _, _, rfl, ?_, Old.chg_ (((Old.refl w).alloc _).trans (R1.out.trans HO4.out)) hst fun b hb => Nat.ne_of_lt hb⟩
          · obtain ⟨j, hj, rfl⟩ := List.getElem_of_mem hr
            rw [nth_eq l j hj]
            exact G0.out j hj
          · unfold transV
            rw [← HN.out]
            refine (((KV.arr HD.out).old HO4.out).chg (Chg.mono hst fun b _ hb => ?_)).mono fun b hb _ => ?_
            · rcases hb with (hb | hb) | hb <;> omega
            · rcases hb with (hb | hb) | hb
              · exact .inl hb.1
              · exact .inr (by omega)
              · exact .inr (by omega)
end Go.Proofs.YtpoanncombcemaaGreatDoor
