/-
  The length of a value, as the manual has it: reckoned by the reference.
  Conditions: the value is right; its text is not too long.
-/
import Derived.Test.YtpoanncombcemaaGreatDoorAbs
import Derived.Laws.IdiomStrings
import Derived.Deep.DeepMust
namespace Go.Proofs.YtpoanncombcemaaGreatDoor
open Go.RowKit

/-- How many code points a text has. -/
def points (t : ByteArray) : Nat := (Conv.runesFrom t t.size 0 #[]).size
theorem points_le (t : ByteArray) : points t ≤ t.size := by have := size_runesFrom t t.size 0 #[]; simpa [points] using this
/-- Twice the length. -/
def lenH : V → Int
  | .mk k h t l _ vs => if k = 3 then (h.natAbs : Int) else if k = 4 then 2 * (points t : Int) else 2 * ((l.length : Int) + (vs.length : Int))
def lenV (v : V) : V := .mk 3 (lenH v) nilS [] [] []

theorem run_runes (t : ByteArray) (ht : t.size ≤ 2147483647) (w : World) : ∃ c w', (convert 9 94 (.string t)).run Tryz.prog w = .ok (.slice (some ⟨w.heap.size, 0, none⟩) (points t) c) w' ∧ Old w w' := by
  have := points_le t
  exact ⟨_, _, run_runes_of_string w _ _ 21 t Tryz.underlying9 Tryz.underlying94 Tryz.underlying21 (by unfold points at this; omega), ((Old.refl w).drew).alloc _⟩

theorem spec_num (w : World) (n : Int) (h0 : 0 ≤ n) (h1 : n ≤ 4294967296) : Calls Tryz.prog 43 #[.int .i64 n] w fun e w' => e = .returned (.agg #[.int .i64 3, .int .i64 (2 * n), .string ⟨#[]⟩, .slice none 0 0, .slice none 0 0, .slice none 0 0]) ∧ Old w w' := by
  go_enter Tryz.func43, Tryz.ntmps43
  go_wp2
  refine bodyPost_ret (v := .agg #[.int .i64 3, .int .i64 (2 * n), .string ⟨#[]⟩, .slice none 0 0, .slice none 0 0, .slice none 0 0]) (by simp [results, Tryz.results43, go_sem]) rfl ?_
  exact ⟨rfl, (Old.refl w).alloc _⟩
theorem spec_points (t : ByteArray) (ht : t.size ≤ 2147483647) (w : World) : Calls Tryz.prog 83 #[.string t] w fun e w' => ∃ A c, e = .returned (.slice A (points t) c) ∧ Old w w' := by
  obtain ⟨c, w', hc, ho⟩ := run_runes t ht w
  clear ht
  go_enter Tryz.func83, Tryz.ntmps83
  go_wp2
  go_ret
  exact ⟨_, _, rfl, ho⟩
theorem spec_number (w : World) (h : Int) (h0 : 0 ≤ h) (hh : HalfOk h) : Calls Tryz.prog 82 #[.int .i64 h] w fun e w' => e = .returned (.tuple #[.agg #[.int .i64 3, .int .i64 h, .string ⟨#[]⟩, .slice none 0 0, .slice none 0 0, .slice none 0 0], .int .i64 0]) ∧ Old w w' := by
  obtain ⟨h1, h2, h3⟩ := hh
  have f1 : ¬ h < -18014398509481984 := by omega
  have f2 : ¬ 18014398509481984 < h := by omega
  have f3 : ¬ h ≤ -9007199254740992 := by omega
  rcases Int.emod_two_eq h with he | he
  · have hm : h.tmod 2 = 0 := by rw [Int.tmod_eq_emod_of_nonneg h0]; exact he
    go_enter Tryz.func82, Tryz.ntmps82
    go_wp2
    refine bodyPost_ret (v := .tuple #[.agg #[.int .i64 3, .int .i64 h, .string ⟨#[]⟩, .slice none 0 0, .slice none 0 0, .slice none 0 0], .int .i64 0]) (by simp [results, Tryz.results82, go_sem]) rfl ?_
    exact ⟨rfl, (Old.refl w).alloc _⟩
  · have f4 : ¬ 9007199254740992 ≤ h := by omega
    have hm : ¬ h.tmod 2 = 0 := by rw [Int.tmod_eq_emod_of_nonneg h0]; omega
    go_enter Tryz.func82, Tryz.ntmps82
    go_wp2
    refine bodyPost_ret (v := .tuple #[.agg #[.int .i64 3, .int .i64 h, .string ⟨#[]⟩, .slice none 0 0, .slice none 0 0, .slice none 0 0], .int .i64 0]) (by simp [results, Tryz.results82, go_sem]) rfl ?_
    exact ⟨rfl, (Old.refl w).alloc _⟩

/-- What the reference answers. -/
def LenAns (v : V) (w : World) (e : Ending) (w' : World) : Prop := e = .returned (.tuple #[.agg #[.int .i64 3, .int .i64 (lenH v), .string ⟨#[]⟩, .slice none 0 0, .slice none 0 0, .slice none 0 0], .int .i64 0]) ∧ Old w w'
def NoAns (w : World) (e : Ending) (w' : World) : Prop := e = .returned (.tuple #[.agg #[.int .i64 0, .int .i64 0, .string ⟨#[]⟩, .slice none 0 0, .slice none 0 0, .slice none 0 0], .int .i64 1]) ∧ Old w w'
set_option maxHeartbeats 4000000 in
theorem size_any {v : V} (hg : Good v) (ht : v.text.size ≤ 2147483647) (w : World) (ok : Nat → Prop) (c0 c1 c2 c3 c4 c5 : Value) (hc : KV w ok v [c0, c1, c2, c3, c4, c5]) :
    Calls Tryz.prog 42 #[.agg #[c0, c1, c2, c3, c4, c5]] w (if v.kind = 1 ∨ v.kind = 2 then NoAns w else LenAns v w) := by
  cases hg with
  | mk k h t l ks vs k0 k6 hk tk lk kk kv hh ht' hl hv hks hkt gl gv =>
  obtain ⟨v1, v2, v3, C1, C3, e, s1, r1, s2, s3, r3⟩ := hc.form
  obtain ⟨A1, m1, rfl, _⟩ := s1.len
  obtain ⟨A2, m2, rfl, _⟩ := s2.len
  obtain ⟨A3, m3, rfl, _⟩ := s3.len
  injection e with e0 e; injection e with e1 e; injection e with e2 e; injection e with e3 e; injection e with e4 e; injection e with e5 e
  subst e0 e1 e2 e3 e4 e5
  have hl0 : k = 5 ∨ l.length = 0 := lk.imp id fun h => by rw [h]; rfl
  have hv0 : k = 6 ∨ vs.length = 0 := kk.imp id fun h => by rw [← kv, h]; rfl
  clear hc s1 r1 s2 s3 r3 hks hkt gl gv ht' e kv lk kk tk
  replace ht : t.size ≤ 2147483647 := ht
  have hpt := points_le t
  generalize hp : points t = p at *
  have HP := Lib.hid hp
  clear hp
  generalize hln : l.length = n at *
  generalize hvn : vs.length = m at *
  have HLN := Lib.hid hln
  have HVN := Lib.hid hvn
  clear hln hvn
  have HO := Lib.hid (((Old.refl w).alloc (.cells #[.int .i64 k, .int .i64 h, .string t, .slice A1 n m1, .slice A2 ks.length m2, .slice A3 m m3] 27)).alloc (.cells #[.int .i64 0, .int .i64 0, .string ⟨#[]⟩, .slice none 0 0, .slice none 0 0, .slice none 0 0] 27))

  have BR := Lib.hid (show Blk ((w.alloc (.cells #[.int .i64 k, .int .i64 h, .string t, .slice A1 n m1, .slice A2 ks.length m2, .slice A3 m m3] 27)).alloc (.cells #[.int .i64 0, .int .i64 0, .string ⟨#[]⟩, .slice none 0 0, .slice none 0 0, .slice none 0 0] 27)) (w.heap.size + 1) #[.int .i64 0, .int .i64 0, .string ⟨#[]⟩, .slice none 0 0, .slice none 0 0, .slice none 0 0] 27 from Blk.new_ (by simp) _ _)
  rcases (show k = 0 ∨ k = 1 ∨ k = 2 ∨ k = 3 ∨ k = 4 ∨ k = 5 ∨ k = 6 by omega) with rfl | rfl | rfl | rfl | rfl | rfl | rfl
  ·
    rw [if_neg (by simp [V.kind])]
    obtain rfl : n = 0 := by omega
    obtain rfl : m = 0 := by omega
    go_enter Tryz.func42, Tryz.ntmps42
    go_wp2_with (go_at_call 43; go_must (refine (spec_num _ _ (by omega) (by omega)).mono ?_; rintro e w3 ⟨rfl, ho⟩; have HO3 := Lib.hid (HO.out.trans ho); have bx := BR.out.old ho; have x0 := bx.cell 0; have f0 := bx.frozen 0; have x1 := bx.cell 1; have f1 := bx.frozen 1; have x2 := bx.cell 2; have f2 := bx.frozen 2; have x3 := bx.cell 3; have f3 := bx.frozen 3; have x4 := bx.cell 4; have f4 := bx.frozen 4; have x5 := bx.cell 5; have f5 := bx.frozen 5; have hl := bx.lt; have BX := Lib.hid bx; clear bx ho))
    refine bodyPost_ret (v := .tuple #[.agg #[.int .i64 3, .int .i64 (2 * 0), .string ⟨#[]⟩, .slice none 0 0, .slice none 0 0, .slice none 0 0], .int .i64 0]) (by simp [results, Tryz.results42, go_sem, x0, x1, x2, x3, x4, x5]) rfl ?_
    have hn1 := HLN.out; have hm1 := HVN.out; have hp1 := HP.out; exact ⟨(by (try simp [lenH]); try omega), Old.chg_ HO3.out (six_stores _ (w.heap.size + 1) _ _ _ _ _ _) fun b hb => Nat.ne_of_lt (by omega)⟩
  ·
    rw [if_pos (by simp [V.kind])]
    clear HP
    go_enter Tryz.func42, Tryz.ntmps42
    go_wp2
    refine bodyPost_ret (v := .tuple #[.agg #[.int .i64 0, .int .i64 0, .string ⟨#[]⟩, .slice none 0 0, .slice none 0 0, .slice none 0 0], .int .i64 1]) (by simp [results, Tryz.results42, go_sem]) rfl ?_
    exact ⟨rfl, HO.out⟩
  ·
    rw [if_pos (by simp [V.kind])]
    clear HP
    go_enter Tryz.func42, Tryz.ntmps42
    go_wp2
    refine bodyPost_ret (v := .tuple #[.agg #[.int .i64 0, .int .i64 0, .string ⟨#[]⟩, .slice none 0 0, .slice none 0 0, .slice none 0 0], .int .i64 1]) (by simp [results, Tryz.results42, go_sem]) rfl ?_
    exact ⟨rfl, HO.out⟩
  ·
    rw [if_neg (by simp [V.kind])]
    have hb1 := hh.1
    have hb2 := hh.2.1
    have HH := Lib.hid hh
    clear hh
    go_enter Tryz.func42, Tryz.ntmps42
    go_wp2_with (go_at_call 82; go_must (rw [show max h (-h) = ((h.natAbs : Nat) : Int) by omega]; refine (spec_number _ _ (by omega) (by have := HH.out; unfold HalfOk at *; omega)).mono ?_; rintro e w3 ⟨rfl, ho⟩; have HO3 := Lib.hid (HO.out.trans ho); have bx := BR.out.old ho; have x0 := bx.cell 0; have f0 := bx.frozen 0; have x1 := bx.cell 1; have f1 := bx.frozen 1; have x2 := bx.cell 2; have f2 := bx.frozen 2; have x3 := bx.cell 3; have f3 := bx.frozen 3; have x4 := bx.cell 4; have f4 := bx.frozen 4; have x5 := bx.cell 5; have f5 := bx.frozen 5; have hl := bx.lt; clear bx ho))
    refine bodyPost_ret (v := .tuple #[.agg #[.int .i64 3, .int .i64 ((h.natAbs : Nat) : Int), .string ⟨#[]⟩, .slice none 0 0, .slice none 0 0, .slice none 0 0], .int .i64 0]) (by simp [results, Tryz.results42, go_sem, x0, x1, x2, x3, x4, x5]) rfl ?_
    have hn1 := HLN.out; have hm1 := HVN.out; have hp1 := HP.out; exact ⟨(by (try simp [lenH]); try omega), Old.chg_ HO3.out (six_stores _ (w.heap.size + 1) _ _ _ _ _ _) fun b hb => Nat.ne_of_lt (by omega)⟩
  ·
    rw [if_neg (by simp [V.kind])]
    go_enter Tryz.func42, Tryz.ntmps42
    go_wp2_with (first | (go_at_call 83; go_must (refine (spec_points t ht _).mono ?_; rw [HP.out]; rintro e w2 ⟨A, c, rfl, ho⟩; have HO2 := Lib.hid ho; clear ho)) | (go_at_call 43; go_must (refine (spec_num _ _ (by omega) (by omega)).mono ?_; rintro e w3 ⟨rfl, ho⟩; have HO3 := Lib.hid (HO.out.trans (HO2.out.trans ho)); have bx := BR.out.old (HO2.out.trans ho); have x0 := bx.cell 0; have f0 := bx.frozen 0; have x1 := bx.cell 1; have f1 := bx.frozen 1; have x2 := bx.cell 2; have f2 := bx.frozen 2; have x3 := bx.cell 3; have f3 := bx.frozen 3; have x4 := bx.cell 4; have f4 := bx.frozen 4; have x5 := bx.cell 5; have f5 := bx.frozen 5; have hl := bx.lt; have BX := Lib.hid bx; clear bx ho)))
    refine bodyPost_ret (v := .tuple #[.agg #[.int .i64 3, .int .i64 (2 * ((p : Nat) : Int)), .string ⟨#[]⟩, .slice none 0 0, .slice none 0 0, .slice none 0 0], .int .i64 0]) (by simp [results, Tryz.results42, go_sem, x0, x1, x2, x3, x4, x5]) rfl ?_
    have hn1 := HLN.out; have hm1 := HVN.out; have hp1 := HP.out; exact ⟨(by (try simp [lenH]); try omega), Old.chg_ HO3.out (six_stores _ (w.heap.size + 1) _ _ _ _ _ _) fun b hb => Nat.ne_of_lt (by omega)⟩
  ·
    rw [if_neg (by simp [V.kind])]
    go_enter Tryz.func42, Tryz.ntmps42
    go_wp2_with (go_at_call 43; go_must (refine (spec_num _ _ (by omega) (by omega)).mono ?_; rintro e w3 ⟨rfl, ho⟩; have HO3 := Lib.hid (HO.out.trans ho); have bx := BR.out.old ho; have x0 := bx.cell 0; have f0 := bx.frozen 0; have x1 := bx.cell 1; have f1 := bx.frozen 1; have x2 := bx.cell 2; have f2 := bx.frozen 2; have x3 := bx.cell 3; have f3 := bx.frozen 3; have x4 := bx.cell 4; have f4 := bx.frozen 4; have x5 := bx.cell 5; have f5 := bx.frozen 5; have hl := bx.lt; have BX := Lib.hid bx; clear bx ho))
    refine bodyPost_ret (v := .tuple #[.agg #[.int .i64 3, .int .i64 (2 * (((n : Nat) : Int) + ((m : Nat) : Int))), .string ⟨#[]⟩, .slice none 0 0, .slice none 0 0, .slice none 0 0], .int .i64 0]) (by simp [results, Tryz.results42, go_sem, x0, x1, x2, x3, x4, x5]) rfl ?_
    have hn1 := HLN.out; have hm1 := HVN.out; have hp1 := HP.out; exact ⟨(by (try simp [lenH]); try omega), Old.chg_ HO3.out (six_stores _ (w.heap.size + 1) _ _ _ _ _ _) fun b hb => Nat.ne_of_lt (by omega)⟩
  ·
    rw [if_neg (by simp [V.kind])]
    go_enter Tryz.func42, Tryz.ntmps42
    go_wp2_with (go_at_call 43; go_must (refine (spec_num _ _ (by omega) (by omega)).mono ?_; rintro e w3 ⟨rfl, ho⟩; have HO3 := Lib.hid (HO.out.trans ho); have bx := BR.out.old ho; have x0 := bx.cell 0; have f0 := bx.frozen 0; have x1 := bx.cell 1; have f1 := bx.frozen 1; have x2 := bx.cell 2; have f2 := bx.frozen 2; have x3 := bx.cell 3; have f3 := bx.frozen 3; have x4 := bx.cell 4; have f4 := bx.frozen 4; have x5 := bx.cell 5; have f5 := bx.frozen 5; have hl := bx.lt; have BX := Lib.hid bx; clear bx ho))
    refine bodyPost_ret (v := .tuple #[.agg #[.int .i64 3, .int .i64 (2 * (((n : Nat) : Int) + ((m : Nat) : Int))), .string ⟨#[]⟩, .slice none 0 0, .slice none 0 0, .slice none 0 0], .int .i64 0]) (by simp [results, Tryz.results42, go_sem, x0, x1, x2, x3, x4, x5]) rfl ?_
    have hn1 := HLN.out; have hm1 := HVN.out; have hp1 := HP.out; exact ⟨(by (try simp [lenH]); try omega), Old.chg_ HO3.out (six_stores _ (w.heap.size + 1) _ _ _ _ _ _) fun b hb => Nat.ne_of_lt (by omega)⟩
end Go.Proofs.YtpoanncombcemaaGreatDoor
