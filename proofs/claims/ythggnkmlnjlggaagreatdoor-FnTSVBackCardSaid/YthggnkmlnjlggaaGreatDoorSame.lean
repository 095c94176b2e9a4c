/-
  Two readings of one value compare as equal.
  Conditions: the value is right.
-/
import Derived.Test.YthggnkmlnjlggaaGreatDoorSize
import Derived.Deep.RegionHeld3
import Derived.Deep.DeepMust
namespace Go.Proofs.YthggnkmlnjlggaaGreatDoor
open Go.RowKit

def ZeroAns (w : World) (e : Ending) (w' : World) : Prop := e = .returned (.int .i64 0) ∧ Old w w'
theorem sign_zero (w : World) : Calls Tryz.prog 53 #[.int .i64 0] w fun e w' => e = .returned (.int .i64 0) ∧ w' = w := by
  go_enter Tryz.func53, Tryz.ntmps53
  go_wp2
  go_ret
  exact ⟨rfl, rfl⟩
theorem texts_same (s : ByteArray) (w : World) : Calls Tryz.prog 54 #[.string s, .string s] w fun e w' => e = .returned (.int .i64 0) ∧ w' = w := by
  have h0 : Op.bytesLess s.toList s.toList = false := by rw [less_key, keyLt_irrefl]
  go_enter Tryz.func54, Tryz.ntmps54
  go_wp2
  go_ret
  exact ⟨rfl, rfl⟩

set_option maxHeartbeats 1000000 in
theorem keys_same (ks : List ByteArray) (hn : ks.length ≤ 9223372036854775807) (w : World) (ok1 ok2 : Nat → Prop) (v1 v2 : Value) (h1 : SliceV w ok1 v1 1 ks.length fun i => [.string (ks.getD i nilS)]) (h2 : SliceV w ok2 v2 1 ks.length fun i => [.string (ks.getD i nilS)]) :
    Calls Tryz.prog 56 #[v1, v2] w (ZeroAns w) := by
  obtain ⟨A1, m1, rfl, hn1⟩ := h1.len
  obtain ⟨A2, m2, rfl, hn2⟩ := h2.len
  have H1 := Lib.hid h1
  have H2 := Lib.hid h2
  clear h1 h2
  go_enter Tryz.func56, Tryz.ntmps56
  go_wp2
  go_loopg [5] ks.length (fun gk s5 wr => ∃ k, k + gk = ks.length ∧ s5 = .int .i64 k ∧ Old w wr)
  case atStart => exact ⟨0, by simp, rfl, Old.refl _⟩
  case round =>
    obtain ⟨k, hk, rfl, hold⟩ := hrel
    have HK := Lib.hid hk
    have HO := Lib.hid hold
    clear hold
    by_cases hlt : k < ks.length
    · obtain ⟨b1, o1, rfl, hb1, k1⟩ := keyAt (H1.out.old HO.out) k hlt
      obtain ⟨b2, o2, rfl, hb2, k2⟩ := keyAt (H2.out.old HO.out) k hlt
      have hp0 : (0 : Int) ≤ (k : Int) := by omega
      have hp1 : (k : Int) < (ks.length : Int) := by omega
      go_upto_region 4 with fail
      go_region_held3 (fun w' => w'.cell? ⟨b1, o1 + k, none⟩ = some (.string (kth ks k)) ∧ w'.cell? ⟨b2, o2 + k, none⟩ = some (.string (kth ks k))) (go_keep) ((go_at_call 54; refine (texts_same _ _).mono ?_; rintro e w' ⟨rfl, rfl⟩))
      go_wp2
      go_roundg (gk - 1)
      case measure => omega
      case rel => exact ⟨k + 1, by omega, by go_num, HO.out.drewN _⟩
    · obtain rfl : k = ks.length := by omega
      go_wp2
      go_ret
      exact ⟨by simp, HO.out⟩

def Cmps (v : V) : Prop := ∀ (w : World) (ok1 ok2 : Nat → Prop) (c0 c1 c2 c3 c4 c5 d0 d1 d2 d3 d4 d5 : Value), KV w ok1 v [c0, c1, c2, c3, c4, c5] → KV w ok2 v [d0, d1, d2, d3, d4, d5] → Calls Tryz.prog 44 #[.agg #[c0, c1, c2, c3, c4, c5], .agg #[d0, d1, d2, d3, d4, d5]] w (ZeroAns w)

set_option maxHeartbeats 4000000 in
theorem lists_same (l : List V) (hn : l.length ≤ 1048576) (ih : ∀ x ∈ l, Cmps x) (w : World) (ok1 ok2 : Nat → Prop) (v1 v2 : Value) (h1 : KVs w ok1 l v1) (h2 : KVs w ok2 l v2) :
    Calls Tryz.prog 55 #[v1, v2] w (ZeroAns w) := by
  obtain ⟨C1, s1, r1⟩ := h1
  obtain ⟨A1, m1, rfl, hn1⟩ := s1.len
  obtain ⟨C2, s2, r2⟩ := h2
  obtain ⟨A2, m2, rfl, hn2⟩ := s2.len
  have H1 := Lib.hid (show KVs w ok1 l (.slice A1 l.length m1) from ⟨C1, s1, r1⟩)
  have H2 := Lib.hid (show KVs w ok2 l (.slice A2 l.length m2) from ⟨C2, s2, r2⟩)
  have IH := Lib.hid ih
  clear s1 r1 s2 r2 ih
  go_enter Tryz.func55, Tryz.ntmps55
  go_wp2
  go_loopg [5] l.length (fun gk s5 wr => ∃ k, k + gk = l.length ∧ s5 = .int .i64 k ∧ Old w wr)
  case atStart => exact ⟨0, by simp, rfl, Old.refl _⟩
  case round =>
    obtain ⟨k, hk, rfl, hold⟩ := hrel
    have HK := Lib.hid hk
    have HO := Lib.hid hold
    clear hold
    by_cases hlt : k < l.length
    · obtain ⟨b1, o1, c0, c1, c2, c3, c4, c5, rfl, hb1, hkv1, e0, e1, e2, e3, e4, e5⟩ := six (w := wr) (ok := ok1) (by obtain ⟨C, s, r⟩ := H1.out; exact ⟨C, s.old HO.out, fun i hi => (r i hi).old HO.out⟩) k hlt
      obtain ⟨b2, o2, d0, d1, d2, d3, d4, d5, rfl, hb2, hkv2, f0, f1, f2, f3, f4, f5⟩ := six (w := wr) (ok := ok2) (by obtain ⟨C, s, r⟩ := H2.out; exact ⟨C, s.old HO.out, fun i hi => (r i hi).old HO.out⟩) k hlt
      have KV1 := Lib.hid hkv1
      have KV2 := Lib.hid hkv2
      obtain ⟨B1, q1, p1, B2, q2, p2, B3, q3, p3, rfl, rfl, rfl, rfl, rfl, rfl⟩ := shape hkv1
      obtain ⟨B1', q1', p1', B2', q2', p2', B3', q3', p3', rfl, rfl, rfl, rfl, rfl, rfl⟩ := shape hkv2
      clear hkv1 hkv2
      generalize hkd : (nth l k).kind = kd at *
      generalize hhf : (nth l k).half = hf at *
      generalize htx : (nth l k).text = tx at *
      clear hkd hhf htx
      have hp0 : (0 : Int) ≤ (k : Int) := by omega
      have hp1 : (k : Int) < (l.length : Int) := by omega
      go_upto_region 4 with fail
      go_region_held3 (fun w' => w'.cell? ⟨b1, o1 + k * 6, none⟩ = some (.int .i64 kd) ∧ w'.cell? ⟨b1, o1 + k * 6 + 1, none⟩ = some (.int .i64 hf) ∧ w'.cell? ⟨b1, o1 + k * 6 + 2, none⟩ = some (.string tx) ∧ w'.cell? ⟨b1, o1 + k * 6 + 3, none⟩ = some (.slice B1 q1 p1) ∧ w'.cell? ⟨b1, o1 + k * 6 + 4, none⟩ = some (.slice B2 q2 p2) ∧ w'.cell? ⟨b1, o1 + k * 6 + 5, none⟩ = some (.slice B3 q3 p3)
        ∧ w'.cell? ⟨b2, o2 + k * 6, none⟩ = some (.int .i64 kd) ∧ w'.cell? ⟨b2, o2 + k * 6 + 1, none⟩ = some (.int .i64 hf) ∧ w'.cell? ⟨b2, o2 + k * 6 + 2, none⟩ = some (.string tx) ∧ w'.cell? ⟨b2, o2 + k * 6 + 3, none⟩ = some (.slice B1' q1' p1') ∧ w'.cell? ⟨b2, o2 + k * 6 + 4, none⟩ = some (.slice B2' q2' p2') ∧ w'.cell? ⟨b2, o2 + k * 6 + 5, none⟩ = some (.slice B3' q3' p3')) (go_keep)
        ((go_at_call 44; refine (IH.out _ (List.getElem_mem hlt) _ ok1 ok2 _ _ _ _ _ _ _ _ _ _ _ _ (by rw [nth_eq]; exact KV1.out.old ((Old.refl _).drew)) (by rw [nth_eq]; exact KV2.out.old ((Old.refl _).drew))).mono ?_; rintro e w2 ⟨rfl, ho⟩; have HO2 := Lib.hid (HO.out.trans (((Old.refl _).drew).trans ho)); have ho2 : Old wr w2 := ((Old.refl _).drew).trans ho; have z0 := ho2.cell e0; have z1 := ho2.cell e1; have z2 := ho2.cell e2; have z3 := ho2.cell e3; have z4 := ho2.cell e4; have z5 := ho2.cell e5; have y0 := ho2.cell f0; have y1 := ho2.cell f1; have y2 := ho2.cell f2; have y3 := ho2.cell f3; have y4 := ho2.cell f4; have y5 := ho2.cell f5; clear ho2 ho))
      go_wp2
      go_roundg (gk - 1)
      case measure => omega
      case rel => exact ⟨k + 1, by omega, by go_num, HO2.out⟩
    · obtain rfl : k = l.length := by omega
      go_wp2
      go_ret
      exact ⟨by simp, HO.out⟩

set_option maxHeartbeats 4000000 in
theorem cmp_any {v : V} (hg : Good v) : Cmps v := by
  induction hg with
  | mk k h t l ks vs k0 k6 hk tk lk kk kv hh ht hl hv hks hkt gl gv ihl ihv =>
    intro w ok1 ok2 c0 c1 c2 c3 c4 c5 d0 d1 d2 d3 d4 d5 hc hd
    obtain ⟨v1, v2, v3, C1, C3, hcs, s1, r1, s2, s3, r3⟩ := hc.form
    simp only [List.cons.injEq, and_true] at hcs
    obtain ⟨rfl, rfl, rfl, rfl, rfl, rfl⟩ := hcs
    obtain ⟨v1', v2', v3', D1, D3, hds, t1, q1, t2, t3, q3⟩ := hd.form
    simp only [List.cons.injEq, and_true] at hds
    obtain ⟨rfl, rfl, rfl, rfl, rfl, rfl⟩ := hds
    obtain ⟨A1, m1, rfl, _⟩ := s1.len
    obtain ⟨A2, m2, rfl, _⟩ := s2.len
    obtain ⟨A3, m3, rfl, _⟩ := s3.len
    obtain ⟨B1, p1, rfl, _⟩ := t1.len
    obtain ⟨B2, p2, rfl, _⟩ := t2.len
    obtain ⟨B3, p3, rfl, _⟩ := t3.len
    have ho := ((Old.refl w).alloc (.cells #[.int .i64 k, .int .i64 h, .string t, .slice A1 l.length m1, .slice A2 ks.length m2, .slice A3 vs.length m3] 26)).alloc (.cells #[.int .i64 k, .int .i64 h, .string t, .slice B1 l.length p1, .slice B2 ks.length p2, .slice B3 vs.length p3] 26)
    have L1 := Lib.hid (show KVs _ ok1 l (.slice A1 l.length m1) from ⟨C1, s1.old ho, fun i hi => (r1 i hi).old ho⟩)
    have L2 := Lib.hid (show KVs _ ok2 l (.slice B1 l.length p1) from ⟨D1, t1.old ho, fun i hi => (q1 i hi).old ho⟩)
    have M1 := Lib.hid (show KVs _ ok1 vs (.slice A3 vs.length m3) from ⟨C3, s3.old ho, fun i hi => (r3 i hi).old ho⟩)
    have M2 := Lib.hid (show KVs _ ok2 vs (.slice B3 vs.length p3) from ⟨D3, t3.old ho, fun i hi => (q3 i hi).old ho⟩)
    have K1 := Lib.hid (s2.old ho)
    have K2 := Lib.hid (t2.old ho)
    have HO := Lib.hid ho
    have IL := Lib.hid ihl
    have IV := Lib.hid ihv
    have hkl : ks.length ≤ 9223372036854775807 := by omega
    clear s1 s2 s3 r1 r3 t1 t2 t3 q1 q3 hc hd ho ihl ihv gl gv hks hkt hh ht kk lk tk hk kv
    have e0 : (k - k : Int) = 0 := Int.sub_self k
    rcases (show k = 0 ∨ k = 1 ∨ k = 2 ∨ k = 3 ∨ k = 4 ∨ k = 5 ∨ k = 6 by omega) with rfl | rfl | rfl | rfl | rfl | rfl | rfl
    all_goals
      clear e0
      go_enter Tryz.func44, Tryz.ntmps44
      go_wp2_with (first
        | (go_at_call 53; refine (sign_zero _).mono ?_; rintro e w' ⟨rfl, rfl⟩)
        | (go_at_call 54; refine (texts_same _ _).mono ?_; rintro e w' ⟨rfl, rfl⟩)
        | (go_at_call 56; go_must (refine (keys_same ks hkl _ ok1 ok2 _ _ K1.out K2.out).mono ?_; rintro e w2 ⟨rfl, ho2⟩; have HO2 := Lib.hid ho2; have bx := Blk.new w #[.int .i64 6, .int .i64 h, .string t, .slice A1 l.length m1, .slice A2 ks.length m2, .slice A3 vs.length m3] 26; have bx2 := (bx.alloc (.cells #[.int .i64 6, .int .i64 h, .string t, .slice B1 l.length p1, .slice B2 ks.length p2, .slice B3 vs.length p3] 26)).old ho2; have by2 := (Blk.new (w.alloc (.cells #[.int .i64 6, .int .i64 h, .string t, .slice A1 l.length m1, .slice A2 ks.length m2, .slice A3 vs.length m3] 26)) #[.int .i64 6, .int .i64 h, .string t, .slice B1 l.length p1, .slice B2 ks.length p2, .slice B3 vs.length p3] 26).old ho2; have x5 := bx2.cell 5; have y5 : w2.cell? ⟨w.heap.size + 1, 5, none⟩ = some (.slice B3 vs.length p3) := (by simpa using by2.cell 5); clear bx bx2 by2 ho2))
        | (go_at_call 55; have hq := HO2; clear hq; go_must (refine (lists_same vs hv IV.out _ ok1 ok2 _ _ (by obtain ⟨C, s, r⟩ := M1.out; exact ⟨C, s.old HO2.out, fun i hi => (r i hi).old HO2.out⟩) (by obtain ⟨C, s, r⟩ := M2.out; exact ⟨C, s.old HO2.out, fun i hi => (r i hi).old HO2.out⟩)).mono ?_; rintro e w3 ⟨rfl, ho3⟩; have HO3 := Lib.hid ho3; clear ho3))
        | (go_at_call 55; refine (lists_same l hl IL.out _ ok1 ok2 _ _ L1.out L2.out).mono ?_; rintro e w3 ⟨rfl, ho3⟩; have HO3 := Lib.hid ho3; clear ho3))
      go_ret
      first
        | exact ⟨rfl, HO.out⟩
        | exact ⟨rfl, HO.out.trans HO3.out⟩
        | exact ⟨rfl, HO.out.trans (HO2.out.trans HO3.out)⟩

def TrueAns (w : World) (e : Ending) (w' : World) : Prop := e = .returned (.bool true) ∧ Old w w'
theorem same_any {v : V} (hg : Good v) (w : World) (ok1 ok2 : Nat → Prop) (c0 c1 c2 c3 c4 c5 d0 d1 d2 d3 d4 d5 : Value) (hc : KV w ok1 v [c0, c1, c2, c3, c4, c5]) (hd : KV w ok2 v [d0, d1, d2, d3, d4, d5]) :
    Calls Tryz.prog 30 #[.agg #[c0, c1, c2, c3, c4, c5], .agg #[d0, d1, d2, d3, d4, d5]] w (TrueAns w) := by
  have C := Lib.hid hc
  have D := Lib.hid hd
  obtain ⟨A1, n1, m1, A2, n2, m2, A3, n3, m3, rfl, rfl, rfl, rfl, rfl, rfl⟩ := shape hc
  obtain ⟨B1, l1, p1, B2, l2, p2, B3, l3, p3, rfl, rfl, rfl, rfl, rfl, rfl⟩ := shape hd
  clear hc hd
  generalize hkd : v.kind = kd at *
  generalize hhf : v.half = hf at *
  generalize htx : v.text = tx at *
  clear hkd hhf htx
  have ho := ((Old.refl w).alloc (.cells #[.int .i64 kd, .int .i64 hf, .string tx, .slice A1 n1 m1, .slice A2 n2 m2, .slice A3 n3 m3] 26)).alloc (.cells #[.int .i64 kd, .int .i64 hf, .string tx, .slice B1 l1 p1, .slice B2 l2 p2, .slice B3 l3 p3] 26)
  have HC := Lib.hid (cmp_any hg _ ok1 ok2 _ _ _ _ _ _ _ _ _ _ _ _ (C.out.old ho) (D.out.old ho))
  have HO := Lib.hid ho
  clear ho
  go_enter Tryz.func30, Tryz.ntmps30
  go_wp2_with (go_at_call 44; go_must (refine HC.out.mono ?_; rintro e w2 ⟨rfl, ho2⟩; have HO2 := Lib.hid ho2; clear ho2))
  go_ret
  exact ⟨rfl, HO.out.trans HO2.out⟩

end Go.Proofs.YthggnkmlnjlggaaGreatDoor
