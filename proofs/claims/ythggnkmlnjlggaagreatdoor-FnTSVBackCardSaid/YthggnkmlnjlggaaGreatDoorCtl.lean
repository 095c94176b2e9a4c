/-
  What looks for control characters in a value: the walk of control.
  Conditions: none.
-/
import Derived.Test.YthggnkmlnjlggaaGreatDoorRefF
import Derived.Test.YthggnkmlnjlggaaGreatDoorUp
import Derived.Deep.AppendSrc
import Derived.Laws.OwnMore
namespace Go.Proofs.YthggnkmlnjlggaaGreatDoor
open Go.RowKit

/-- What an append takes from a list of texts. -/
def TakenS (w : World) (x : Value) (m : Nat) (news : List Value) : Prop :=
  (m = 0 ∧ news = [] ∧ ∃ A c, x = .slice A 0 c ∧ (A = none → c = 0)) ∨ (0 < m ∧ ∃ ad c, x = .slice (some ad) m c ∧ news.length = m ∧ (∀ j u, news[j]? = some u → w.cell? (ad.add j) = some u) ∧ ∀ u ∈ news, u.oneCell' = true)
theorem SliceV.takenS {w : World} {ok : Nat → Prop} {ks : List ByteArray} {x : Value} (s : SliceV w ok x 1 ks.length fun i => [.string (ks.getD i nilS)]) : TakenS w x ks.length (ks.map Value.string) := by
  obtain ⟨A, c, rfl, hc, hn, hs⟩ := s
  rcases Nat.eq_zero_or_pos ks.length with h0 | h0
  · obtain rfl := List.eq_nil_of_length_eq_zero h0
    exact .inl ⟨rfl, rfl, A, c, rfl, hn⟩
  · obtain ⟨b, o, cs, t, fz, rfl, ho, hb, hr⟩ := hs h0
    refine .inr ⟨h0, ⟨b, o, none⟩, c, rfl, by simp, fun j u hu => ?_, fun u hu => ?_⟩
    · have hj : j < ks.length := by simpa using (List.getElem?_eq_some_iff.1 hu).1
      have h2 := (hr j hj).2 0 (by decide)
      have hadd : (⟨b, o, none⟩ : Addr).add j = ⟨b, o + j, none⟩ := by unfold Addr.add; split <;> simp_all
      rw [hadd]
      simp only [Nat.mul_one, Nat.add_zero, List.getElem?_cons_zero] at h2
      simp only [World.cell?, hb, h2]
      rw [List.getElem?_map, List.getElem?_eq_getElem hj] at hu
      simp only [Option.map_some, Option.some.injEq] at hu
      subst hu
      simp [List.getD_eq_getElem?_getD, List.getElem?_eq_getElem hj]
    · obtain ⟨s, _, rfl⟩ := List.mem_map.1 hu
      rfl
theorem TakenS.old {w w' : World} {x : Value} {m : Nat} {news : List Value} (h : TakenS w x m news) (ho : Old w w') : TakenS w' x m news := by
  rcases h with h | ⟨hm, ad, c, hx, hl, hn, h1⟩
  · exact .inl h
  · exact .inr ⟨hm, ad, c, hx, hl, fun j u hu => ho.cell (hn j u hu), h1⟩
/-- An append of a list of texts, whatever its length, to a row of the call's own that is not nil. -/
theorem run_joinS (w : World) (base : Nat) (i : TypeInfo) (hi : Tryz.prog.info? 9 = some i) (hz : i.zero = some (.string ⟨#[]⟩)) (hsz : i.size = 1) (hby : i.bytes = 16)
    (ty : TypeId) (g0 n c0 : Nat) (xs : List Value) (hown : w.ownsRow base 9 1 (.slice (some ⟨g0, 0, none⟩) n c0) n xs) (x : Value) (m : Nat) (news : List Value) (hx : TakenS w x m news) (hnm : n + m ≤ 1048576) (hb : base ≤ w.heap.size) :
    ∃ g cap w', (Builtin.append_ #[24, 24] ty #[.slice (some ⟨g0, 0, none⟩) n c0, x]).run Tryz.prog w = .ok (.slice (some ⟨g, 0, none⟩) (n + m) cap) w' ∧
      w'.ownsRow base 9 1 (.slice (some ⟨g, 0, none⟩) (n + m) cap) (n + m) (xs ++ news) ∧ w.grownBy w' (some g0) := by
  rcases hx with ⟨rfl, rfl, A, c, rfl, hc⟩ | ⟨hm, ad, c, rfl, hl, hnews, h1⟩
  · have hsrc : Src Tryz.prog i.size 24 (.slice A 0 c) 0 [] w := by
      rcases A with _ | ad
      · exact Src.ofNil w Tryz.underlying24 c
      · exact Src.ofSlice w Tryz.underlying24 ad 0 c [] (by simp) (fun j u h => by simp at h) (fun u h => by cases h)
    have hroom := own_cap hown
    have := run_append_room_src (P := Tryz.prog) w 24 24 ty 9 i Tryz.underlying24 hi g0 0 n c0 (.slice A 0 c) 0 [] hsrc (by omega) (fun j hj => by simp at hj) (fun j hj => by simp at hj)
    refine ⟨g0, c0, w, this, by simpa using hown, ⟨rfl, rfl, rfl, Nat.le_refl _, fun _ _ _ => rfl⟩⟩
  · obtain ⟨g, cap, w', h2, h3, h4, _, _⟩ := run_append_lies (P := Tryz.prog) w 24 ty base 9 i _ 1 16 Tryz.underlying24 hi hz hsz hby rfl (by decide) _ n xs hown ad m c news (by rw [hl, Nat.mul_one]) hnews h1 hm (by unfold maxLen; omega) (by omega) hb _ rfl
    exact ⟨g, cap, w', h2, h3, h4⟩
theorem wpList_joinS {ops : Array Oper} {rest : List Oper} {o : Oper} {a : Act} {Q : Exit → Act → World → Prop} (w : World) (hgd : o.guard = none) (s x : Operand)
    (ho : o.op = .call { callee := .builtin .append, args := #[s, x], argTypes := #[24, 24] })
    (base : Nat) (i : TypeInfo) (hi : Tryz.prog.info? 9 = some i) (hz : i.zero = some (.string ⟨#[]⟩)) (hsz : i.size = 1) (hby : i.bytes = 16)
    (g0 n c0 : Nat) (xs : List Value) (hs : a.eval s = .slice (some ⟨g0, 0, none⟩) n c0) (hown : w.ownsRow base 9 1 (.slice (some ⟨g0, 0, none⟩) n c0) n xs) (xv : Value) (hxv : a.eval x = xv) (m : Nat) (news : List Value) (hx : TakenS w xv m news) (hnm : n + m ≤ 1048576) (hb : base ≤ w.heap.size)
    (h : ∀ g cap w', w'.ownsRow base 9 1 (.slice (some ⟨g, 0, none⟩) (n + m) cap) (n + m) (xs ++ news) → w.grownBy w' (some g0) → wpList Tryz.prog ops Q rest (a.put o.dst (.slice (some ⟨g, 0, none⟩) (n + m) cap)) w') : wpList Tryz.prog ops Q (o :: rest) a w :=
  wpList_plain hgd fun _ hK => by
    obtain ⟨g, cap, w', hr, h2, h3⟩ := run_joinS w base i hi hz hsz hby o.type g0 n c0 xs hown xv m news hx hnm hb
    unfold Oper.wp execOp
    simp only [ho, resolve, invoke, builtin, Sem.run_bind, Sem.run_pure, Result.andThen_ok, List.map_toArray, List.map_cons, List.map_nil, hs, hxv, hr]
    exact hK _ _ (h g cap w' h2 h3)
/-- The cells of a row of texts. -/
theorem row_cell {w : World} {base g cap n : Nat} {ks : List ByteArray} (h : w.ownsRow base 9 1 (.slice (some ⟨g, 0, none⟩) n cap) n (ks.map Value.string)) (k : Nat) (hk : k < ks.length) : w.cell? ⟨g, k, none⟩ = some (.string (ks.getD k nilS)) := by
  have := (own_at h (i := k) (u := .string (ks.getD k nilS)) (by rw [List.getElem?_map, List.getElem?_eq_getElem hk, List.getD_eq_getElem?_getD, List.getElem?_eq_getElem hk]; rfl)).1
  simpa using this
def CtlAns (w : World) (e : Ending) (w' : World) : Prop := ∃ b, e = .returned (.bool b) ∧ Old w w'
def Controls (v : V) : Prop := ∀ (w : World) (ok : Nat → Prop) (c0 c1 c2 c3 c4 c5 : Value), KV w ok v [c0, c1, c2, c3, c4, c5] → Calls Tryz.prog 14 #[.agg #[c0, c1, c2, c3, c4, c5]] w (CtlAns w)
set_option maxHeartbeats 8000000 in
set_option maxRecDepth 100000 in
theorem control_any {v : V} (hg : Good v) : Small v → Controls v := by
  induction hg with
  | mk k h t l ks vs k0 k6 hk tk lk kk kv hh ht hl hv hks hkt gl gv ihl ihv =>
    intro hsm w ok c0 c1 c2 c3 c4 c5 hc
    obtain ⟨v1, v2, v3, C1, C3, hcs, s1, r1, s2, s3, r3⟩ := hc.form
    simp only [List.cons.injEq, and_true] at hcs
    obtain ⟨rfl, rfl, rfl, rfl, rfl, rfl⟩ := hcs
    obtain ⟨A1, m1, rfl, hn1⟩ := s1.len
    have HT2 := Lib.hid s2.takenS
    obtain ⟨A2, m2, rfl, hn2⟩ := s2.len
    obtain ⟨A3, m3, rfl, hn3⟩ := s3.len
    have hsz : t.size ≤ 2000 ∧ (∀ s ∈ ks, s.size ≤ 2000) ∧ l.length ≤ 400 ∧ ks.length ≤ 400 ∧ vs.length ≤ 400 ∧ (∀ x ∈ l, Small x) ∧ (∀ x ∈ vs, Small x) := by
      cases hsm with
      | mk k h t l ks vs ht hkt hl hk hv gl gv => exact ⟨ht, hkt, hl, hk, hv, gl, gv⟩
    obtain ⟨z1, z2, z3, z4, z5, z6, z7⟩ := hsz
    have IL := Lib.hid (fun x (hx : x ∈ l) => ihl x hx (z6 x hx))
    have IV := Lib.hid (fun x (hx : x ∈ vs) => ihv x hx (z7 x hx))
    have HL := Lib.hid (show KVs w ok l (.slice A1 l.length m1) from ⟨C1, s1, r1⟩)
    have HV := Lib.hid (show KVs w ok vs (.slice A3 vs.length m3) from ⟨C3, s3, r3⟩)
    have HTS := Lib.hid (show ∀ i, i < (t :: ks).length → ((t :: ks).getD i nilS).size ≤ 2000 from fun i hi => by
      rw [List.getD_eq_getElem?_getD, List.getElem?_eq_getElem hi]
      rcases List.mem_cons.1 (List.getElem_mem hi) with h1 | h1
      · simp only [Option.getD_some]
        rw [h1]
        exact z1
      · exact z2 _ h1)
    have HTX := Lib.hid (show (t :: ks).map Value.string = [.string t] ++ ks.map Value.string from rfl)
    have HTL := Lib.hid (show (t :: ks).length = 1 + ks.length by rw [List.length_cons]; omega)
    obtain ⟨n1, hn1'⟩ : ∃ x, x = l.length := ⟨_, rfl⟩
    obtain ⟨n2, hn2'⟩ : ∃ x, x = ks.length := ⟨_, rfl⟩
    obtain ⟨n3, hn3'⟩ : ∃ x, x = vs.length := ⟨_, rfl⟩
    rw [← hn1'] at hn1 z3 HL ⊢
    rw [← hn2'] at hn2 z4 HT2 HTL ⊢
    rw [← hn3'] at hn3 z5 HV ⊢
    have HN1 := Lib.hid hn1'
    have HN3 := Lib.hid hn3'
    obtain ⟨iv, hi, hz0, hz1, hz2⟩ := info_parts Tryz.infoStr
    have HI := Lib.hid hi
    have HZ0 := Lib.hid hz0
    have HZ1 := Lib.hid hz1
    have HZ2 := Lib.hid hz2
    clear hn1' hn2' hn3' hc s1 s2 s3 r1 r3 ihl ihv gl gv hks hkt hsm hk tk lk kk kv hh ht hl hv z1 z2 z6 z7 k0 k6 hi hz0 hz1 hz2
    obtain ⟨w1, hw1⟩ : ∃ x, x = w.alloc (.cells #[.int .i64 k, .int .i64 h, .string t, .slice A1 n1 m1, .slice A2 n2 m2, .slice A3 n3 m3] 26) := ⟨_, rfl⟩
    have HO1 := Lib.hid (show Old w w1 by rw [hw1]; exact (Old.refl w).alloc _)
    have hbx : Blk w1 w.heap.size #[.int .i64 k, .int .i64 h, .string t, .slice A1 n1 m1, .slice A2 n2 m2, .slice A3 n3 m3] 26 := by rw [hw1]; exact Blk.new _ _ _
    have BX := Lib.hid hbx
    have x2 : w1.cell? ⟨w.heap.size, 2, none⟩ = some (.string t) := hbx.cell 2
    have x4 : w1.cell? ⟨w.heap.size, 4, none⟩ = some (.slice A2 n2 m2) := hbx.cell 4
    have hbl : w.heap.size < w1.heap.size := hbx.lt
    clear hbx
    go_enter Tryz.func14, Tryz.ntmps14
    go_upto_region 1 with (fail)
    rw [← hw1]
    clear hw1
    go_wp2_with (at_builtin; go_must (refine wpList_joinS _ rfl (.tmp 10) (.tmp 12) rfl w1.heap.size iv HI.out HZ0.out HZ1.out HZ2.out w1.heap.size 1 1 [.string t] rfl (World.ownsRow_lit w1 #[.string t] 1 (Nat.le_refl _) (by decide) rfl) _ rfl n2 _ (HT2.out.old (HO1.out.alloc _)) (by omega) (by simp) ?_; intro g c w2 hown hg; have HO2 := Lib.hid (((Old.refl w1).alloc (.cells #[.string t] 9)).grown hg (fun k hk => by cases hk; exact Nat.le_refl _)); rw [← HTX.out] at hown; have HW2 := Lib.hid hown; clear hown hg))
    have HROW := Lib.hid (fun k hk => row_cell (ks := t :: ks) (by rw [HTX.out]; exact HW2.out) k hk)
    have hgl : g < w2.heap.size := (own_at HW2.out (i := 0) (u := .string t) rfl).2.2
    have HO12 := Lib.hid (HO1.out.trans HO2.out)
    have BX2 := Lib.hid (BX.out.old HO2.out)
    go_loopg [15] (1 + n2) (fun gk s15 wr => ∃ q, q + gk = 1 + n2 ∧ s15 = .int .i64 (q : Nat) ∧ w2 = wr)
    case atStart => exact ⟨0, by omega, by go_num, rfl⟩
    case round =>
      obtain ⟨q, hq, rfl, rfl⟩ := hrel
      by_cases hqn : q < 1 + n2
      · have hcl := HROW.out q (by rw [HTL.out]; exact hqn)
        have hsz := HTS.out q (by rw [HTL.out]; exact hqn)
        obtain ⟨y, hy⟩ : ∃ y, y = (t :: ks).getD q nilS := ⟨_, rfl⟩
        rw [← hy] at hcl hsz
        have HIY := Lib.hid (fun k hk W => index_at y k hk W)
        have hqi : (q : Int) < 1 + (n2 : Int) := by omega
        have s2 : IntKind.i64.wrap ((q : Int) + 1) = (q : Int) + 1 := IntWalk.i64_in _ (by omega)
        obtain ⟨gko, hgko⟩ : ∃ gko, gko = gk := ⟨_, rfl⟩
        subst hgko
        clear hy
        go_wp2
        go_loopg [5] y.size (fun gk s5 wr => ∃ j, j + gk = y.size ∧ s5 = .int .i64 (j : Nat) ∧ w2 = wr)
        case atStart => exact ⟨0, by omega, by go_num, rfl⟩
        case round =>
          obtain ⟨j, hj, rfl, rfl⟩ := hrel
          by_cases hlt : j < y.size
          · have hix := HIY.out j hlt
            obtain ⟨c, hc⟩ : ∃ c, c = y.data.toList.getD j 0 := ⟨_, rfl⟩
            rw [← hc] at hix
            have hjl : (j : Int) < (y.size : Nat) := by omega
            have s1 : IntKind.i64.wrap ((j : Int) + 1) = (j : Int) + 1 := IntWalk.i64_in _ (by omega)
            clear hc
            by_cases h32 : (c.toNat : Int) < 32
            · have hd : decide ((c.toNat : Int) < 32) = true := decide_eq_true h32
              go_wp2
              go_ret
              exact ⟨_, rfl, HO12.out⟩
            · have hd : decide ((c.toNat : Int) < 32) = false := decide_eq_false h32
              by_cases h127 : (c.toNat : Int) = 127
              · have hd2 : ((c.toNat : Int) == 127) = true := by simpa using h127
                go_wp2
                go_ret
                exact ⟨_, rfl, HO12.out⟩
              · have hd2 : ((c.toNat : Int) == 127) = false := by simpa using h127
                go_wp2
                go_roundg (gk - 1)
                case measure => omega
                case rel => exact ⟨j + 1, by omega, by go_num, rfl⟩
          · go_wp2
            go_roundg (gko - 1)
            case measure => omega
            case rel => exact ⟨q + 1, by omega, by go_num, rfl⟩
      · clear x2 x4 hbl
        go_wp2
        go_loopg [6] n1 (fun gk s6 wr => ∃ i, i + gk = n1 ∧ s6 = .int .i64 (i : Nat) ∧ Old w2 wr)
        case atStart => exact ⟨0, by omega, by go_num, Old.refl _⟩
        case round =>
          obtain ⟨i, hi, rfl, hold⟩ := hrel
          have bx := BX2.out.old hold
          have x3 : wr.cell? ⟨w.heap.size, 3, none⟩ = some (.slice A1 n1 m1) := bx.cell 3
          have hbl2 := bx.lt
          have HO := Lib.hid (HO12.out.trans hold)
          have HOW := Lib.hid hold
          clear bx hold
          by_cases hlt : i < n1
          · obtain ⟨b, o, d0, d1, d2, d3, d4, d5, rfl, hb, hkv, e0, e1, e2, e3, e4, e5⟩ := six (w := wr) (ok := ok) (l := l) (m := n1) (c := m1) (by obtain ⟨C, s, r⟩ := HL.out; exact ⟨C, s.old HO.out, fun i hi => (r i hi).old HO.out⟩) i (by rw [← HN1.out]; exact hlt)
            have HCT := Lib.hid (IL.out (nth l i) (by rw [← nth_eq _ _ (by rw [← HN1.out]; exact hlt)]; exact List.getElem_mem _) wr ok _ _ _ _ _ _ hkv)
            obtain ⟨B1, q1, p1, B2, q2, p2, B3, q3, p3, rfl, rfl, rfl, rfl, rfl, rfl⟩ := shape hkv
            generalize (nth l i).kind = kd at *
            generalize (nth l i).half = hf at *
            generalize (nth l i).text = tx at *
            have hin : (i : Int) < (n1 : Nat) := by omega
            have t1 : IntKind.i64.wrap ((i : Int) + 1) = (i : Int) + 1 := IntWalk.i64_in _ (by omega)
            clear hkv
            go_wp2_with (go_at_call 14; go_must (refine HCT.out.mono ?_; rintro e w4 ⟨b4, rfl, ho4⟩; have HO4 := Lib.hid (HO.out.trans ho4); have HO5 := Lib.hid ho4; clear ho4; cases b4))
            · go_roundg (gk - 1)
              case measure => omega
              case rel => exact ⟨i + 1, by omega, by go_num, HOW.out.trans HO5.out⟩
            · go_ret
              exact ⟨_, rfl, HO4.out⟩
          · have bx5 := BX2.out.old HOW.out
            have x5 : wr.cell? ⟨w.heap.size, 5, none⟩ = some (.slice A3 n3 m3) := bx5.cell 5
            obtain ⟨wo, hwo⟩ : ∃ wo : World, wo = wr := ⟨_, rfl⟩
            subst hwo
            clear bx5 x5
            go_wp2
            go_loopg [7] n3 (fun gk s7 wr => ∃ i, i + gk = n3 ∧ s7 = .int .i64 (i : Nat) ∧ Old w2 wr)
            case atStart => exact ⟨0, by omega, by go_num, HOW.out⟩
            case round =>
              clear HO HOW hlt hi
              obtain ⟨i, hi, rfl, hold⟩ := hrel
              have bx := BX2.out.old hold
              have x5 : wr.cell? ⟨w.heap.size, 5, none⟩ = some (.slice A3 n3 m3) := bx.cell 5
              have hbl3 := bx.lt
              have HO := Lib.hid (HO12.out.trans hold)
              have HOW := Lib.hid hold
              clear bx hold
              by_cases hlt : i < n3
              · obtain ⟨b, o, d0, d1, d2, d3, d4, d5, rfl, hb, hkv, e0, e1, e2, e3, e4, e5⟩ := six (w := wr) (ok := ok) (l := vs) (m := n3) (c := m3) (by obtain ⟨C, s, r⟩ := HV.out; exact ⟨C, s.old HO.out, fun i hi => (r i hi).old HO.out⟩) i (by rw [← HN3.out]; exact hlt)
                have HCT := Lib.hid (IV.out (nth vs i) (by rw [← nth_eq _ _ (by rw [← HN3.out]; exact hlt)]; exact List.getElem_mem _) wr ok _ _ _ _ _ _ hkv)
                obtain ⟨B1, q1, p1, B2, q2, p2, B3, q3, p3, rfl, rfl, rfl, rfl, rfl, rfl⟩ := shape hkv
                generalize (nth vs i).kind = kd at *
                generalize (nth vs i).half = hf at *
                generalize (nth vs i).text = tx at *
                have hin : (i : Int) < (n3 : Nat) := by omega
                have t1 : IntKind.i64.wrap ((i : Int) + 1) = (i : Int) + 1 := IntWalk.i64_in _ (by omega)
                clear hkv
                go_wp2_with (go_at_call 14; go_must (refine HCT.out.mono ?_; rintro e w4 ⟨b4, rfl, ho4⟩; have HO4 := Lib.hid (HO.out.trans ho4); have HO5 := Lib.hid ho4; clear ho4; cases b4))
                · go_roundg (gk - 1)
                  case measure => omega
                  case rel => exact ⟨i + 1, by omega, by go_num, HOW.out.trans HO5.out⟩
                · go_ret
                  exact ⟨_, rfl, HO4.out⟩
              · go_wp2
                go_ret
                exact ⟨_, rfl, HO.out⟩
end Go.Proofs.YthggnkmlnjlggaaGreatDoor
