/-
  The reference's row: the walk of row.
  Conditions: none.
-/
import Derived.Test.YthggnkmlnjlggaaGreatDoorRefD
namespace Go.Proofs.YthggnkmlnjlggaaGreatDoor
open Go.RowKit

/-- What stands in a row for a value. -/
def cellT (v : V) : ByteArray := if v.kind = 4 then escS v.text else bareT v
theorem chg_esc {b : UInt8} (h : b ≠ 0) : chg b = esc b := by
  unfold chg esc
  by_cases h1 : b = 9
  · subst h1
    rfl
  · by_cases h2 : b = 13
    · subst h2
      rfl
    · by_cases h3 : b = 10
      · subst h3
        rfl
      · rw [if_neg h3, if_neg h2, if_neg h1, if_neg h1, if_neg h2, if_neg h3, if_neg h]
theorem chgL_escL : ∀ l : List UInt8, (∀ b ∈ l, b ≠ 0) → chgL l = escL l
  | [], _ => rfl
  | a :: r, h => by
    have ih := chgL_escL r fun b hb => h b (List.mem_cons_of_mem _ hb)
    simp only [chgL, escL, List.flatMap_cons] at *
    rw [ih, chg_esc (h a List.mem_cons_self)]
theorem chgS_escS {s : ByteArray} (h : Zfree s) : chgS s = escS s := by
  unfold chgS escS
  rw [chgL_escL]
  intro b hb
  obtain ⟨k, hk, rfl⟩ := List.getElem_of_mem hb
  have := h k (by simpa using hk)
  rwa [List.getD_eq_getElem?_getD, List.getElem?_eq_getElem hk] at this
theorem ntext_size {h : Int} (hb : -18014398509481984 ≤ h ∧ h ≤ 18014398509481984) : (ntext h).size ≤ 21 := by
  have h1 := ptext_size (m := h.natAbs) (by omega)
  unfold ntext
  rw [ByteArray.size_append]
  by_cases hn : h < 0
  · rw [if_pos hn]
    have : (ByteArray.mk #[45]).size = 1 := rfl
    omega
  · rw [if_neg hn]
    have : (ByteArray.mk #[]).size = 0 := rfl
    omega
theorem right_half {v : V} (h : Right v) : -18014398509481984 ≤ v.half ∧ v.half ≤ 18014398509481984 := by
  obtain ⟨hg, _⟩ := h
  cases hg with
  | mk k h t l ks vs k0 k6 hk tk lk kk kv hh ht hl hv hks hkt gl gv => exact ⟨hh.1, hh.2.1⟩
theorem right_kind {v : V} (h : Right v) : 0 ≤ v.kind ∧ v.kind ≤ 6 := by
  obtain ⟨hg, _⟩ := h
  cases hg with
  | mk k h t l ks vs k0 k6 hk tk lk kk kv hh ht hl hv hks hkt gl gv => exact ⟨k0, k6⟩
theorem right_text {v : V} (h : Right v) : v.text.size ≤ 2000 := by
  obtain ⟨_, hs⟩ := h
  cases hs with
  | mk k h t l ks vs ht hkt hl hk hv gl gv => exact ht
theorem right_list {v : V} (h : Right v) : v.list.length ≤ 400 ∧ ∀ x ∈ v.list, Right x := by
  obtain ⟨hg, hs⟩ := h
  cases hs with
  | mk k h t l ks vs ht hkt hl hk hv gl gv =>
    cases hg with
    | mk k h t l ks vs k0 k6 hk tk lk kk kv hh ht hl' hv hks hkt gl' gv => exact ⟨hl, fun x hx => ⟨gl' x hx, gl x hx⟩⟩
theorem bareT_size {v : V} (h : Right v) : (bareT v).size ≤ 2000 := by
  have h1 := right_kind h
  have h2 := right_text h
  have h3 := ntext_size (right_half h)
  unfold bareT plainT
  by_cases k0 : v.kind = 0
  · rw [if_pos k0]
    decide
  · by_cases k1 : v.kind = 1
    · rw [if_neg k0, if_neg k0, if_pos k1]
      decide
    · by_cases k2 : v.kind = 2
      · rw [if_neg k0, if_neg k0, if_neg k1, if_pos k2]
        decide
      · by_cases k3 : v.kind = 3
        · rw [if_neg k0, if_neg k0, if_neg k1, if_neg k2, if_pos k3]
          omega
        · rw [if_neg k0, if_neg k0, if_neg k1, if_neg k2, if_neg k3]
          exact h2
theorem cellT_size {v : V} (h : Right v) : (cellT v).size ≤ 4000 := by
  have h2 := right_text h
  have h3 := bareT_size h
  have h4 := escS_size v.text
  unfold cellT
  split <;> omega
theorem joinT_take (l : List V) (k : Nat) (hk : k < l.length) : joinT ((l.take (k + 1)).map cellT) = (if k = 0 then (⟨#[]⟩ : ByteArray) else joinT ((l.take k).map cellT) ++ ⟨#[9]⟩) ++ cellT (nth l k) := by
  have e : (l.take (k + 1)).map cellT = (l.take k).map cellT ++ [cellT (nth l k)] := by
    rw [List.take_succ_eq_append_getElem hk, nth_eq]
    simp
  rw [e]
  by_cases h0 : k = 0
  · subst h0
    rw [if_pos rfl]
    simp only [List.take_zero, List.map_nil, List.nil_append]
    rw [joinT_one]
    exact ByteArray.empty_append.symm
  · rw [if_neg h0]
    obtain ⟨a, r, har⟩ : ∃ a r, (l.take k).map cellT = a :: r := by
      cases hm : (l.take k).map cellT with
      | nil =>
        have := congrArg List.length hm
        simp only [List.length_map, List.length_take, List.length_nil] at this
        omega
      | cons a r => exact ⟨a, r, rfl⟩
    rw [har, joinT_snoc]
/-- What the reference says of a row. -/
def RowAns (v : V) (w : World) (e : Ending) (w' : World) : Prop := ∃ s how, e = .returned (.tuple #[.string s, .int .i64 how]) ∧ (how = 0 ∧ v.kind = 5 ∧ (∀ x ∈ v.list, x.kind ≤ 4) ∧ s = joinT (v.list.map cellT) ∨ how = 1 ∧ (v.kind ≠ 5 ∨ ∃ x ∈ v.list, 5 ≤ x.kind) ∨ how = 2) ∧ Old w w'
set_option maxHeartbeats 8000000 in
set_option maxRecDepth 100000 in
theorem row_any {v : V} (hr : Right v) (hz : ∀ x ∈ v.list, Zfree x.text) (w : World) (ok : Nat → Prop) (c0 c1 c2 c3 c4 c5 : Value) (hc : KV w ok v [c0, c1, c2, c3, c4, c5]) :
    Calls Tryz.prog 24 #[.agg #[c0, c1, c2, c3, c4, c5], .string ⟨#[116, 115, 118]⟩, .string ⟨#[9]⟩] w (RowAns v w) := by
  obtain ⟨v1, v2, v3, C1, C3, hcs, s1, r1, s2, s3, r3⟩ : ∃ v1 v2 v3 C1 C3, [c0, c1, c2, c3, c4, c5] = [.int .i64 v.kind, .int .i64 v.half, .string v.text, v1, v2, v3] ∧ SliceV w ok v1 6 v.list.length C1 ∧ (∀ i (hi : i < v.list.length), KV w ok v.list[i] (C1 i)) ∧
    SliceV w ok v2 1 v.keys.length (fun i => [.string (v.keys.getD i nilS)]) ∧ SliceV w ok v3 6 v.vals.length C3 ∧ (∀ i (hi : i < v.vals.length), KV w ok v.vals[i] (C3 i)) := by
    cases v
    exact hc.form
  simp only [List.cons.injEq, and_true] at hcs
  obtain ⟨rfl, rfl, rfl, rfl, rfl, rfl⟩ := hcs
  obtain ⟨A1, m1, rfl, hn1⟩ := s1.len
  obtain ⟨A2, m2, rfl, hn2⟩ := s2.len
  obtain ⟨A3, m3, rfl, hn3⟩ := s3.len
  have hll := (right_list hr).1
  have HR := Lib.hid ((right_list hr).2)
  obtain ⟨kd, hkd⟩ : ∃ x, x = v.kind := ⟨_, rfl⟩
  obtain ⟨hf, hhf⟩ : ∃ x, x = v.half := ⟨_, rfl⟩
  obtain ⟨tx, htx⟩ : ∃ x, x = v.text := ⟨_, rfl⟩
  rw [← hkd, ← hhf, ← htx]
  have HKD := Lib.hid hkd
  clear htx hkd hhf hr
  obtain ⟨n2, hn2'⟩ : ∃ x, x = v.keys.length := ⟨_, rfl⟩
  obtain ⟨n3, hn3'⟩ : ∃ x, x = v.vals.length := ⟨_, rfl⟩
  obtain ⟨n, hn⟩ : ∃ x, x = v.list.length := ⟨_, rfl⟩
  have HK0 := Lib.hid (show KVs w ok v.list (.slice A1 v.list.length m1) from ⟨C1, s1, r1⟩)
  rw [← hn] at HK0 hll hn1 ⊢
  rw [← hn2', ← hn3']
  have HN := Lib.hid hn
  have HZ := Lib.hid hz
  clear hn2' hn3' hn hz hc s1 s2 s3 r1 r3
  obtain ⟨w1, hw1⟩ : ∃ x, x = w.alloc (.cells #[.int .i64 kd, .int .i64 hf, .string tx, .slice A1 n m1, .slice A2 n2 m2, .slice A3 n3 m3] 26) := ⟨_, rfl⟩
  have HO1 := Lib.hid (show Old w w1 by rw [hw1]; exact (Old.refl w).alloc _)
  have hbx : Blk w1 w.heap.size #[.int .i64 kd, .int .i64 hf, .string tx, .slice A1 n m1, .slice A2 n2 m2, .slice A3 n3 m3] 26 := by rw [hw1]; exact Blk.new _ _ _
  have x0 : w1.cell? ⟨w.heap.size, 0, none⟩ = some (.int .i64 kd) := hbx.cell 0
  have x3 : w1.cell? ⟨w.heap.size, 3, none⟩ = some (.slice A1 n m1) := hbx.cell 3
  have hbl : w.heap.size < w1.heap.size := hbx.lt
  clear hbx
  by_cases h5 : kd = 5
  · subst h5
    go_enter Tryz.func24, Tryz.ntmps24
    go_upto_region 1 with (fail)
    rw [← hw1]
    clear hw1
    go_wp2
    go_loopg [8, 19] n (fun gk s8 s19 wr => ∃ k, k + gk = n ∧ s8 = .string (joinT ((v.list.take k).map cellT)) ∧ s19 = .int .i64 (k : Nat) ∧ (∀ j, j < k → (nth v.list j).kind ≤ 4) ∧ Old w wr)
    case atStart => exact ⟨0, by omega, rfl, by go_num, fun j hj => absurd hj (by omega), HO1.out⟩
    case round =>
      obtain ⟨k, hk, rfl, rfl, hpl, hold⟩ := hrel
      have HPL := Lib.hid hpl
      have HO := Lib.hid hold
      clear hpl hold
      by_cases hlt : k < n
      · obtain ⟨b, o, d0, d1, d2, d3, d4, d5, rfl, hb, hkv, e0, e1, e2, e3, e4, e5⟩ := six (w := wr) (ok := ok) (l := v.list) (m := n) (c := m1) (by obtain ⟨C, s, r⟩ := HK0.out; exact ⟨C, s.old HO.out, fun i hi => (r i hi).old HO.out⟩) k (by rw [← HN.out]; exact hlt)
        obtain ⟨B1, q1, p1, B2, q2, p2, B3, q3, p3, rfl, rfl, rfl, rfl, rfl, rfl⟩ := shape hkv
        have hrk : Right (nth v.list k) := by rw [← nth_eq _ _ (by rw [← HN.out]; exact hlt)]; exact HR.out _ (List.getElem_mem _)
        have hzk : Zfree (nth v.list k).text := by rw [← nth_eq _ _ (by rw [← HN.out]; exact hlt)]; exact HZ.out _ (List.getElem_mem _)
        have HJ := Lib.hid (joinT_take v.list k (by rw [← HN.out]; exact hlt))
        have hXs : (joinT ((v.list.take k).map cellT)).size ≤ 1700000 := by
          have h1 := joinT_size (B := 4000) (xs := (v.list.take k).map cellT) (fun x hx => by
            obtain ⟨y, hy, rfl⟩ := List.mem_map.1 hx
            exact cellT_size (HR.out y (List.mem_of_mem_take hy)))
          rw [List.length_map, List.length_take] at h1
          have h2 : min k v.list.length * (4000 + 1) ≤ 400 * (4000 + 1) := Nat.mul_le_mul_right _ (by omega)
          omega
        obtain ⟨X, hX⟩ : ∃ X, X = joinT ((v.list.take k).map cellT) := ⟨_, rfl⟩
        rw [← hX] at HJ hXs ⊢
        obtain ⟨y, hy⟩ : ∃ y, y = nth v.list k := ⟨_, rfl⟩
        rw [← hy] at hkv hrk hzk HJ e0 e1 e2
        have hty := right_text hrk
        have HXE := Lib.hid hX
        have hyk := right_kind hrk
        have hbs := bareT_size hrk
        have hcs := cellT_size hrk
        have HCT := Lib.hid (show cellT y = if y.kind = 4 then escS y.text else bareT y from rfl)
        have HBT := Lib.hid (show y.kind = 4 → bareT y = y.text from fun h => by unfold bareT plainT; rw [h]; rfl)
        have HCE := Lib.hid (chgS_escS hzk)
        have HBC := Lib.hid (fun W c0 c1 c2 c3 c4 c5 (hk : KV W (fun _ => True) y [c0, c1, c2, c3, c4, c5]) => bare_any hrk.1 W _ c0 c1 c2 c3 c4 c5 hk)
        obtain ⟨ky, hky⟩ : ∃ x, x = y.kind := ⟨_, rfl⟩
        obtain ⟨hy2, hhy⟩ : ∃ x, x = y.half := ⟨_, rfl⟩
        obtain ⟨ty, hty'⟩ : ∃ x, x = y.text := ⟨_, rfl⟩
        have HKY := Lib.hid hky
        have HTY := Lib.hid hty'
        have HYE := Lib.hid hy
        rw [← hky] at e0 hyk
        rw [← hhy] at e1
        rw [← hty'] at e2 hty
        have hkv2 : KV (wr.alloc (.cells #[.int .i64 ky, .int .i64 hy2, .string ty, .slice B1 q1 p1, .slice B2 q2 p2, .slice B3 q3 p3] 26)) (fun _ => True) y [.int .i64 ky, .int .i64 hy2, .string ty, .slice B1 q1 p1, .slice B2 q2 p2, .slice B3 q3 p3] := by
          rw [hky, hhy, hty']
          exact (hkv.old ((Old.refl wr).alloc _)).mono fun _ _ _ => trivial
        have HBA := Lib.hid (HBC.out _ _ _ _ _ _ _ hkv2)
        have BX := Lib.hid (Blk.new wr #[.int .i64 ky, .int .i64 hy2, .string ty, .slice B1 q1 p1, .slice B2 q2 p2, .slice B3 q3 p3] 26)
        have hkn : (k : Int) < (n : Nat) := by omega
        have t1 : IntKind.i64.wrap ((k : Int) + 1) = (k : Int) + 1 := IntWalk.i64_in _ (by omega)
        clear hkv hrk hzk hky hhy hty' hy hX hkv2 HBC
        by_cases h0 : k = 0
        · subst h0
          simp only [Nat.zero_mul, Nat.add_zero] at e0 e1 e2 e3 e4 e5
          by_cases h4 : ky = 4
          · subst h4
            have HS4 := Lib.hid (show chgS (bareT y) = cellT y by rw [HBT.out HKY.out.symm, HCE.out, HCT.out, if_pos HKY.out.symm])
            have hs4 : (chgS (bareT y)).size ≤ 4000 := by rw [HS4.out]; exact hcs
            have hbs2 : (bareT y).size ≤ 1000000 := by omega
            have hadd1 := fun W => run_string_add_sum (P := Tryz.prog) W X (chgS (bareT y)) (by omega)
            have REL := Lib.hid (show Value.string (X ++ chgS (bareT y)) = .string (joinT ((v.list.take (0 + 1)).map cellT)) by rw [HJ.out, if_pos rfl, HS4.out, HXE.out]; rfl)
            skip
            go_wp2_with (first
              | (go_at_call 40; go_must (refine HBA.out.mono ?_; rintro e w2 ⟨s, how, rfl, hs, ho2⟩; have HO2 := Lib.hid (HO.out.trans (((Old.refl wr).alloc _).trans ho2)); have bx := BX.out.old ho2; have y0 : w2.cell? ⟨wr.heap.size, 0, none⟩ = some (.int .i64 4) := bx.cell 0; have ybl := bx.lt; clear bx ho2; rcases hs with ⟨rfl, hk4, rfl⟩ | ⟨rfl, hk5⟩ | ⟨rfl, hk4⟩))
              | (go_at_call 26; go_must (refine (changed_any _ (by omega) _ _ (Blk.new _ chgCells _)).mono ?_; rintro e w3 ⟨rfl, rfl⟩)))
            · go_roundg (gk - 1)
              case measure => omega
              case rel =>
                refine ⟨0 + 1, by omega, REL.out, by go_num, fun j hj => ?_, HO2.out.alloc _⟩
                by_cases hjk : j = 0
                · rw [hjk, ← HYE.out]
                  exact hk4
                · exact HPL.out j (by omega)
            · go_ret2
              exact ⟨_, _, rfl, .inr (.inl ⟨rfl, .inr ⟨y, by rw [HYE.out, ← nth_eq _ _ (by rw [← HN.out]; exact hlt)]; exact List.getElem_mem _, hk5⟩⟩), HO2.out⟩
            · go_ret2
              exact ⟨_, _, rfl, .inr (.inr rfl), HO2.out⟩
          · skip
            have HS4 := Lib.hid (show bareT y = cellT y by rw [HCT.out, if_neg (by rw [← HKY.out]; exact h4)])
            have h4b : (ky == 4) = false := by simpa using h4
            have hadd1 := fun W => run_string_add_sum (P := Tryz.prog) W X (bareT y) (by omega)
            have REL := Lib.hid (show Value.string (X ++ bareT y) = .string (joinT ((v.list.take (0 + 1)).map cellT)) by rw [HJ.out, if_pos rfl, HS4.out, HXE.out]; rfl)
            skip
            go_wp2_with (first
              | (go_at_call 40; go_must (refine HBA.out.mono ?_; rintro e w2 ⟨s, how, rfl, hs, ho2⟩; have HO2 := Lib.hid (HO.out.trans (((Old.refl wr).alloc _).trans ho2)); have bx := BX.out.old ho2; have y0 : w2.cell? ⟨wr.heap.size, 0, none⟩ = some (.int .i64 ky) := bx.cell 0; have ybl := bx.lt; clear bx ho2; rcases hs with ⟨rfl, hk4, rfl⟩ | ⟨rfl, hk5⟩ | ⟨rfl, hk4⟩))
              | (go_at_call 26; go_must (refine (changed_any _ (by omega) _ _ (Blk.new _ chgCells _)).mono ?_; rintro e w3 ⟨rfl, rfl⟩)))
            · go_roundg (gk - 1)
              case measure => omega
              case rel =>
                refine ⟨0 + 1, by omega, REL.out, by go_num, fun j hj => ?_, HO2.out⟩
                by_cases hjk : j = 0
                · rw [hjk, ← HYE.out]
                  exact hk4
                · exact HPL.out j (by omega)
            · go_ret2
              exact ⟨_, _, rfl, .inr (.inl ⟨rfl, .inr ⟨y, by rw [HYE.out, ← nth_eq _ _ (by rw [← HN.out]; exact hlt)]; exact List.getElem_mem _, hk5⟩⟩), HO2.out⟩
            · go_ret2
              exact ⟨_, _, rfl, .inr (.inr rfl), HO2.out⟩
        · have hk0 : (0 : Int) < (k : Nat) := by omega
          by_cases h4 : ky = 4
          · subst h4
            have HS4 := Lib.hid (show chgS (bareT y) = cellT y by rw [HBT.out HKY.out.symm, HCE.out, HCT.out, if_pos HKY.out.symm])
            have hs4 : (chgS (bareT y)).size ≤ 4000 := by rw [HS4.out]; exact hcs
            have hbs2 : (bareT y).size ≤ 1000000 := by omega
            have hx9 : (X ++ ⟨#[9]⟩ : ByteArray).size ≤ 1700001 := by rw [ByteArray.size_append]; have h9 : (ByteArray.mk #[9]).size = 1 := rfl; omega
            have hadd0 := fun W => run_string_add_sum (P := Tryz.prog) W X ⟨#[9]⟩ (by have h9 : (ByteArray.mk #[9]).size = 1 := rfl; omega)
            have hadd1 := fun W => run_string_add_sum (P := Tryz.prog) W (X ++ ⟨#[9]⟩) (chgS (bareT y)) (by omega)
            have REL := Lib.hid (show Value.string (X ++ ⟨#[9]⟩ ++ chgS (bareT y)) = .string (joinT ((v.list.take (k + 1)).map cellT)) by rw [HJ.out, if_neg h0, HS4.out])
            clear hx9
            skip
            go_wp2_with (first
              | (go_at_call 40; go_must (refine HBA.out.mono ?_; rintro e w2 ⟨s, how, rfl, hs, ho2⟩; have HO2 := Lib.hid (HO.out.trans (((Old.refl wr).alloc _).trans ho2)); have bx := BX.out.old ho2; have y0 : w2.cell? ⟨wr.heap.size, 0, none⟩ = some (.int .i64 4) := bx.cell 0; have ybl := bx.lt; clear bx ho2; rcases hs with ⟨rfl, hk4, rfl⟩ | ⟨rfl, hk5⟩ | ⟨rfl, hk4⟩))
              | (go_at_call 26; go_must (refine (changed_any _ (by omega) _ _ (Blk.new _ chgCells _)).mono ?_; rintro e w3 ⟨rfl, rfl⟩)))
            · go_roundg (gk - 1)
              case measure => omega
              case rel =>
                refine ⟨k + 1, by omega, REL.out, by go_num, fun j hj => ?_, HO2.out.alloc _⟩
                by_cases hjk : j = k
                · rw [hjk, ← HYE.out]
                  exact hk4
                · exact HPL.out j (by omega)
            · go_ret2
              exact ⟨_, _, rfl, .inr (.inl ⟨rfl, .inr ⟨y, by rw [HYE.out, ← nth_eq _ _ (by rw [← HN.out]; exact hlt)]; exact List.getElem_mem _, hk5⟩⟩), HO2.out⟩
            · go_ret2
              exact ⟨_, _, rfl, .inr (.inr rfl), HO2.out⟩
          · skip
            have HS4 := Lib.hid (show bareT y = cellT y by rw [HCT.out, if_neg (by rw [← HKY.out]; exact h4)])
            have h4b : (ky == 4) = false := by simpa using h4
            have hx9 : (X ++ ⟨#[9]⟩ : ByteArray).size ≤ 1700001 := by rw [ByteArray.size_append]; have h9 : (ByteArray.mk #[9]).size = 1 := rfl; omega
            have hadd0 := fun W => run_string_add_sum (P := Tryz.prog) W X ⟨#[9]⟩ (by have h9 : (ByteArray.mk #[9]).size = 1 := rfl; omega)
            have hadd1 := fun W => run_string_add_sum (P := Tryz.prog) W (X ++ ⟨#[9]⟩) (bareT y) (by omega)
            have REL := Lib.hid (show Value.string (X ++ ⟨#[9]⟩ ++ bareT y) = .string (joinT ((v.list.take (k + 1)).map cellT)) by rw [HJ.out, if_neg h0, HS4.out])
            clear hx9
            skip
            go_wp2_with (first
              | (go_at_call 40; go_must (refine HBA.out.mono ?_; rintro e w2 ⟨s, how, rfl, hs, ho2⟩; have HO2 := Lib.hid (HO.out.trans (((Old.refl wr).alloc _).trans ho2)); have bx := BX.out.old ho2; have y0 : w2.cell? ⟨wr.heap.size, 0, none⟩ = some (.int .i64 ky) := bx.cell 0; have ybl := bx.lt; clear bx ho2; rcases hs with ⟨rfl, hk4, rfl⟩ | ⟨rfl, hk5⟩ | ⟨rfl, hk4⟩))
              | (go_at_call 26; go_must (refine (changed_any _ (by omega) _ _ (Blk.new _ chgCells _)).mono ?_; rintro e w3 ⟨rfl, rfl⟩)))
            · go_roundg (gk - 1)
              case measure => omega
              case rel =>
                refine ⟨k + 1, by omega, REL.out, by go_num, fun j hj => ?_, HO2.out⟩
                by_cases hjk : j = k
                · rw [hjk, ← HYE.out]
                  exact hk4
                · exact HPL.out j (by omega)
            · go_ret2
              exact ⟨_, _, rfl, .inr (.inl ⟨rfl, .inr ⟨y, by rw [HYE.out, ← nth_eq _ _ (by rw [← HN.out]; exact hlt)]; exact List.getElem_mem _, hk5⟩⟩), HO2.out⟩
            · go_ret2
              exact ⟨_, _, rfl, .inr (.inr rfl), HO2.out⟩
      · obtain rfl : k = n := by omega
        go_wp2
        go_ret2
        refine ⟨_, _, rfl, .inl ⟨rfl, HKD.out.symm, fun x hx => ?_, ?_⟩, HO.out⟩
        · obtain ⟨j, hj, rfl⟩ := List.getElem_of_mem hx
          rw [nth_eq]
          exact HPL.out j (by rw [← HN.out] at hj; omega)
        · rw [List.take_of_length_le (by rw [← HN.out]; exact Nat.le_refl _)]
  · have hne : (kd == 5) = false := by simpa using h5
    go_enter Tryz.func24, Tryz.ntmps24
    go_upto_region 1 with (fail)
    rw [← hw1]
    clear hw1
    go_wp2
    go_ret2
    exact ⟨_, _, rfl, .inr (.inl ⟨rfl, .inl (by rw [← HKD.out]; exact h5)⟩), HO1.out⟩
end Go.Proofs.YthggnkmlnjlggaaGreatDoor
