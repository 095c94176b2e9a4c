/-
  The texts of a row's elements, as the law wants them: the walks of String (of any right value) and plainRow.
  Conditions: the values are right.
-/
import Derived.Test.YthggnkmlnjlggaaGreatDoorJsn
import Derived.Test.YthggnkmlnjlggaaGreatDoorRefE
namespace Go.Proofs.YthggnkmlnjlggaaGreatDoor
open Go.RowKit
attribute [local go_sem ↓] Go.wp_at_zero Go.wp_at_succ

def StrAll (v : V) (w : World) (e : Ending) (w' : World) : Prop := ∃ s how, e = .returned (.tuple #[.string s, .int .i64 how]) ∧ (v.kind ≤ 4 → how = 0 → s = plainT v) ∧ Old w w'
set_option maxHeartbeats 2000000 in
set_option maxRecDepth 100000 in
theorem string_all {v : V} (hr : Right v) (hn : nodes v ≤ 400) (w : World) (ok : Nat → Prop) (c0 c1 c2 c3 c4 c5 : Value) (hc : KV w ok v [c0, c1, c2, c3, c4, c5]) :
    Calls Tryz.prog 20 #[.agg #[c0, c1, c2, c3, c4, c5]] w (StrAll v w) := by
  by_cases hk : v.kind ≤ 4
  · refine (string_plain hr.1 hk w ok _ _ _ _ _ _ hc).mono fun e w' h => ?_
    obtain ⟨s, how, he, hs, ho⟩ := h
    exact ⟨s, how, he, fun _ h0 => hs.elim (fun h => h.2) (fun h => absurd (h.symm.trans h0) (by decide)), ho⟩
  · have hj := json_all hr.1 hr.2 hn
    obtain ⟨A1, n1, m1, A2, n2, m2, A3, n3, m3, rfl, rfl, rfl, rfl, rfl, rfl⟩ := shape hc
    obtain ⟨kd, hkd⟩ : ∃ x, x = v.kind := ⟨_, rfl⟩
    obtain ⟨hf, hhf⟩ : ∃ x, x = v.half := ⟨_, rfl⟩
    obtain ⟨tx, htx⟩ : ∃ x, x = v.text := ⟨_, rfl⟩
    rw [← hkd, ← hhf, ← htx] at hc ⊢
    rw [← hkd] at hk
    have HKD := Lib.hid hkd
    have HJ := Lib.hid (hj _ ok _ _ _ _ _ _ (hc.old ((Old.refl w).alloc (.cells #[.int .i64 kd, .int .i64 hf, .string tx, .slice A1 n1 m1, .slice A2 n2 m2, .slice A3 n3 m3] 26))))
    have hne : (kd == 4) = false := by simp; omega
    have HNK := Lib.hid hk
    clear hkd hhf htx hc hr hk hj hn
    go_enter Tryz.func20, Tryz.ntmps20
    go_wp2_with (go_at_call 23; go_must (refine HJ.out.mono ?_; rintro e w2 ⟨s, how, rfl, _, ho⟩; have HO := Lib.hid ho; clear ho))
    go_ret2
    exact ⟨_, _, rfl, fun h => absurd h (by have := HNK.out; rw [← HKD.out]; omega), ((Old.refl w).alloc _).trans HO.out⟩
/-- The texts of a row. -/
def rowTexts (l : List V) : List Value := l.map fun x => .string (bareT x)
def PRowAns (l : List V) (w : World) (e : Ending) (w' : World) : Prop :=
  ((∃ v, e = .returned (.tuple #[v, .bool true]) ∧ 0 < l.length ∧ (∀ x ∈ l, x.kind ≤ 4 ∧ Zfree x.text) ∧ w'.ownsRow w.heap.size 9 1 v l.length (rowTexts l)) ∨ ∃ v, e = .returned (.tuple #[v, .bool false])) ∧ Old w w'
theorem rowTexts_snoc (l : List V) (k : Nat) (hk : k < l.length) : rowTexts (l.take (k + 1)) = rowTexts (l.take k) ++ [.string (bareT (nth l k))] := by
  rw [List.take_succ_eq_append_getElem hk, nth_eq]
  simp [rowTexts]
set_option maxHeartbeats 16000000 in
set_option maxRecDepth 100000 in
theorem plain_row (l : List V) (hl : l.length ≤ 2147483648) (hr : ∀ x ∈ l, Right x ∧ nodes x ≤ 400) (w : World) (ok : Nat → Prop) (v : Value) (h : KVs w ok l v) :
    Calls Tryz.prog 9 #[v] w (PRowAns l w) := by
  obtain ⟨C, s, r⟩ := h
  obtain ⟨A, c, rfl, hcap⟩ := s.len
  have HK := Lib.hid (show KVs w ok l (.slice A l.length c) from ⟨C, s, r⟩)
  have HR := Lib.hid hr
  obtain ⟨n, hn⟩ : ∃ n, n = l.length := ⟨_, rfl⟩
  rw [← hn] at HK hl hcap ⊢
  have HN := Lib.hid hn
  obtain ⟨iv, hi, hz0, hz1, hz2⟩ := info_parts Tryz.infoStr
  have HI := Lib.hid hi
  have HZ0 := Lib.hid hz0
  have HZ1 := Lib.hid hz1
  have HZ2 := Lib.hid hz2
  clear s r hr hn hi hz0 hz1 hz2
  go_enter Tryz.func9, Tryz.ntmps9
  go_wp2
  go_loopg [4, 5] n (fun gk s4 s5 wr => ∃ k u, k + gk = n ∧ s4 = u ∧ s5 = .int .i64 (k : Nat) ∧ wr.ownsRow w.heap.size 9 1 u k (rowTexts (l.take k)) ∧ Old w wr ∧ ∀ j, j < k → (nth l j).kind ≤ 4 ∧ Zfree (nth l j).text)
  case atStart => exact ⟨0, _, by omega, rfl, by go_num, World.ownsRow_nil _ _ _ _, Old.refl _, fun j hj => absurd hj (by omega)⟩
  case round =>
    obtain ⟨k, u, hk, rfl, rfl, O, hold, hpl⟩ := hrel
    obtain ⟨A4, c4, rfl⟩ := own_len O
    have OW := Lib.hid O
    have HO := Lib.hid hold
    have HPL := Lib.hid hpl
    clear O hold hpl
    by_cases hlt : k < n
    · obtain ⟨b, o, d0, d1, d2, d3, d4, d5, rfl, hb, hkv, e0, e1, e2, e3, e4, e5⟩ := six (w := wr) (ok := ok) (l := l) (m := n) (c := c) (by obtain ⟨C, s, r⟩ := HK.out; exact ⟨C, s.old HO.out, fun i hi => (r i hi).old HO.out⟩) k (by rw [← HN.out]; exact hlt)
      obtain ⟨B1, q1, p1, B2, q2, p2, B3, q3, p3, rfl, rfl, rfl, rfl, rfl, rfl⟩ := shape hkv
      have hrk : Right (nth l k) ∧ nodes (nth l k) ≤ 400 := by rw [← nth_eq _ _ (by rw [← HN.out]; exact hlt)]; exact HR.out _ (List.getElem_mem _)
      have HSN := Lib.hid (rowTexts_snoc l k (by rw [← HN.out]; exact hlt))
      obtain ⟨y, hy⟩ : ∃ y, y = nth l k := ⟨_, rfl⟩
      rw [← hy] at hkv hrk HSN e0 e1 e2
      have HYE := Lib.hid hy
      have hyk := right_kind hrk.1
      have hyl := right_list hrk.1
      have hty := right_text hrk.1
      have KVY := Lib.hid hkv
      have HSA := Lib.hid (string_all hrk.1 hrk.2 wr ok _ _ _ _ _ _ hkv)
      have HNU := Lib.hid (fun W c0 c1 c2 c3 c4 c5 hc => nul_any y (by omega) (fun x hx => by have := right_text (hyl.2 x hx); omega) (by omega) W ok c0 c1 c2 c3 c4 c5 hc)
      obtain ⟨ky, hky⟩ : ∃ x, x = y.kind := ⟨_, rfl⟩
      obtain ⟨hy2, hhy⟩ : ∃ x, x = y.half := ⟨_, rfl⟩
      obtain ⟨ty, hty'⟩ : ∃ x, x = y.text := ⟨_, rfl⟩
      have HKY := Lib.hid hky
      have HTY := Lib.hid hty'
      rw [← hky, ← hhy, ← hty'] at KVY HSA
      rw [← hky] at e0 hyk
      rw [← hhy] at e1
      rw [← hty'] at e2
      have hkn : (k : Int) < (n : Nat) := by omega
      have t1 : IntKind.i64.wrap ((k : Int) + 1) = (k : Int) + 1 := IntWalk.i64_in _ (by omega)
      have HBT := Lib.hid (show bareT y = if y.kind = 0 then nilS else plainT y from rfl)
      clear hkv hrk hky hhy hty' hy hyl hty
      go_upto_region 6 with (go_at_call 20; go_must (refine HSA.out.mono ?_; rintro e w2 ⟨s, how, rfl, hs, ho2⟩; have HO2 := Lib.hid ho2; have z0 := ho2.cell e0; have z1 := ho2.cell e1; have z2 := ho2.cell e2; have z3 := ho2.cell e3; have z4 := ho2.cell e4; have z5 := ho2.cell e5; have zb := Nat.lt_of_lt_of_le hb ho2.size; have HS := Lib.hid hs; clear hs ho2))
      clear e0 e1 e2 e3 e4 e5
      by_cases hh : how = 0
      · subst hh
        by_cases h56 : ky = 5 ∨ ky = 6
        · rcases h56 with rfl | rfl
          · go_wp2
            go_ret2
            exact ⟨.inr ⟨_, rfl⟩, HO.out.trans HO2.out⟩
          · go_wp2
            go_ret2
            exact ⟨.inr ⟨_, rfl⟩, HO.out.trans HO2.out⟩
        · have hn5 : (ky == 5) = false := by simp; omega
          have hn6 : (ky == 6) = false := by simp; omega
          have HNY := Lib.hid (HNU.out _ _ _ _ _ _ _ (KVY.out.old HO2.out))
          go_upto_region 8 with (go_at_call 21; go_must (refine HNY.out.mono ?_; rintro e w3 ⟨b3, rfl, hz3, ho3⟩; have HO3 := Lib.hid (HO2.out.trans ho3); have HZ3 := Lib.hid hz3; have y0 := ho3.cell z0; have yb := Nat.lt_of_lt_of_le zb ho3.size; clear ho3 hz3; cases b3))
          · by_cases hz : ky = 0
            · subst hz
              have HBY : bareT y = ⟨#[]⟩ := by rw [HBT.out, if_pos HKY.out.symm]; rfl
              have HSZ := Lib.hid (show wr.ownsRow w.heap.size 9 1 (.slice A4 k c4) k (rowTexts (l.take k)) from OW.out)
              go_wp2_with (at_builtin; go_must (refine wpList_append_lies _ rfl _ _ _ rfl w.heap.size 9 iv _ 1 16 Tryz.underlying24 HI.out HZ0.out HZ1.out HZ2.out rfl (by decide) (.slice A4 k c4) k (rowTexts (l.take k)) rfl (own_old (own_old OW.out HO3.out) ((Old.refl _).alloc _)) ⟨w3.heap.size, 0, none⟩ 1 1 [.string ⟨#[]⟩] rfl rfl (news_blk (cs := #[.string ⟨#[]⟩]) (Blk.new w3 _ _)) (one_one rfl) (by decide) (by unfold maxLen; omega) (by omega) (by have h1 := Old.size HO.out; have h2 := Old.size HO3.out; simp; omega) (w3.heap.size + 1) (by simp) ?_; intro gn cap w4 hown hgrow _ _; have REL := Lib.hid (show w4.ownsRow w.heap.size 9 1 (.slice (some ⟨gn, 0, none⟩) (k + 1) cap) (k + 1) (rowTexts (l.take (k + 1))) ∧ Old w w4 from ⟨by rw [HSN.out, HBY]; exact hown, ((HO.out.trans HO3.out).alloc _).grown hgrow fun b hb => (own_lt OW.out hb).1⟩); clear hown hgrow))
              go_roundg (gk - 1)
              case measure => omega
              case rel =>
                refine ⟨k + 1, _, by omega, rfl, by go_num, REL.out.1, REL.out.2, fun j hj => ?_⟩
                by_cases hjk : j = k
                · rw [hjk, ← HYE.out, ← HKY.out]
                  exact ⟨by omega, (HZ3.out trivial).1⟩
                · exact HPL.out j (by omega)
            · have hn0 : (ky == 0) = false := by simpa using hz
              have HBY : bareT y = s := by rw [HBT.out, if_neg (by rw [← HKY.out]; exact hz), HS.out (by rw [← HKY.out]; omega) trivial]
              have HSZ := Lib.hid (show wr.ownsRow w.heap.size 9 1 (.slice A4 k c4) k (rowTexts (l.take k)) from OW.out)
              go_wp2_with (at_builtin; go_must (refine wpList_append_lies _ rfl _ _ _ rfl w.heap.size 9 iv _ 1 16 Tryz.underlying24 HI.out HZ0.out HZ1.out HZ2.out rfl (by decide) (.slice A4 k c4) k (rowTexts (l.take k)) rfl (own_old (own_old OW.out HO3.out) ((Old.refl _).alloc _)) ⟨w3.heap.size, 0, none⟩ 1 1 [.string s] rfl rfl (news_blk (cs := #[.string s]) (Blk.new w3 _ _)) (one_one rfl) (by decide) (by unfold maxLen; omega) (by omega) (by have h1 := Old.size HO.out; have h2 := Old.size HO3.out; simp; omega) (w3.heap.size + 1) (by simp) ?_; intro gn cap w4 hown hgrow _ _; have REL := Lib.hid (show w4.ownsRow w.heap.size 9 1 (.slice (some ⟨gn, 0, none⟩) (k + 1) cap) (k + 1) (rowTexts (l.take (k + 1))) ∧ Old w w4 from ⟨by rw [HSN.out, HBY]; exact hown, ((HO.out.trans HO3.out).alloc _).grown hgrow fun b hb => (own_lt OW.out hb).1⟩); clear hown hgrow))
              go_roundg (gk - 1)
              case measure => omega
              case rel =>
                refine ⟨k + 1, _, by omega, rfl, by go_num, REL.out.1, REL.out.2, fun j hj => ?_⟩
                by_cases hjk : j = k
                · rw [hjk, ← HYE.out, ← HKY.out]
                  exact ⟨by omega, (HZ3.out trivial).1⟩
                · exact HPL.out j (by omega)
          · go_wp2
            go_ret2
            exact ⟨.inr ⟨_, rfl⟩, HO.out.trans HO3.out⟩
      · have hh1 : (how == 0) = false := by simpa using hh
        have hh2 : (how != 0) = true := by simpa using hh
        go_wp2
        go_ret2
        exact ⟨.inr ⟨_, rfl⟩, HO.out.trans HO2.out⟩
    · obtain rfl : k = n := by omega
      by_cases h0 : k = 0
      · subst h0
        go_wp2
        go_ret2
        exact ⟨.inr ⟨_, rfl⟩, HO.out⟩
      · have hk0 : decide (0 < k) = true := decide_eq_true (by omega)
        go_wp2
        go_ret2
        refine ⟨.inl ⟨_, rfl, by rw [← HN.out]; omega, fun x hx => ?_, ?_⟩, HO.out⟩
        · obtain ⟨j, hj, rfl⟩ := List.getElem_of_mem hx
          rw [nth_eq]
          exact HPL.out j (by rw [HN.out]; exact hj)
        · have := OW.out
          rw [List.take_of_length_le (by rw [HN.out]; exact Nat.le_refl _)] at this
          rw [← HN.out]
          exact this
end Go.Proofs.YthggnkmlnjlggaaGreatDoor
