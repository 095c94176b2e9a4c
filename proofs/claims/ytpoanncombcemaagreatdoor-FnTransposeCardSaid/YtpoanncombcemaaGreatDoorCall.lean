/-
  What the reference answers for a name and a value without arguments.
  Conditions: the value is right.
-/
import Derived.Test.YtpoanncombcemaaGreatDoorVague
import Derived.Deep.DeepMust
namespace Go.Proofs.YtpoanncombcemaaGreatDoor
open Go.RowKit

/-- A value, and how. -/
def Gives (ok : Nat → Prop) (v : V) (how : Int) (w : World) (e : Ending) (w' : World) : Prop :=
  ∃ x0 x1 x2 x3 x4 x5, e = .returned (.tuple #[.agg #[x0, x1, x2, x3, x4, x5], .int .i64 how]) ∧ KV w' (fun b => ok b ∨ w.heap.size ≤ b) v [x0, x1, x2, x3, x4, x5] ∧ Old w w'

theorem size_alloc' (w : World) (o : Obj) : (w.alloc o).heap.size = w.heap.size + 1 := by simp
theorem array_nil : Good (.mk 5 0 nilS [] [] []) := .mk 5 0 nilS [] [] [] (by decide) (by decide) (.inr rfl) (.inr rfl) (.inr rfl) (.inr rfl) rfl ⟨by decide, by decide, .inl rfl⟩ ⟨by decide, by decide⟩ (by simp) (by simp) List.Pairwise.nil (fun _ h => by cases h) (fun _ h => by cases h) (fun _ h => by cases h)
theorem array_any (w : World) : Calls Tryz.prog 25 #[.slice none 0 0] w fun e w' => e = .returned (.agg #[.int .i64 5, .int .i64 0, .string ⟨#[]⟩, .slice none 0 0, .slice none 0 0, .slice none 0 0]) ∧ Old w w' := by
  go_enter Tryz.func25, Tryz.ntmps25
  go_wp2
  refine bodyPost_ret (v := .agg #[.int .i64 5, .int .i64 0, .string ⟨#[]⟩, .slice none 0 0, .slice none 0 0, .slice none 0 0]) (by simp [results, Tryz.results25, go_sem]) rfl ?_
  exact ⟨rfl, (Old.refl w).alloc _⟩
set_option maxHeartbeats 4000000 in
set_option maxRecDepth 100000 in
theorem alone_length {v x : V} {how : Int} (w : World) (ok : Nat → Prop) (c0 c1 c2 c3 c4 c5 : Value) (hc : KV w ok v [c0, c1, c2, c3, c4, c5]) (hz : ∀ W, KV W (fun b => ok b ∧ b < w.heap.size) v [c0, c1, c2, c3, c4, c5] → Calls Tryz.prog 42 #[.agg #[c0, c1, c2, c3, c4, c5]] W (Gives (fun b => ok b ∧ b < w.heap.size) x how W)) :
    Calls Tryz.prog 26 #[.string ⟨#[108, 101, 110, 103, 116, 104]⟩, .agg #[c0, c1, c2, c3, c4, c5]] w (Gives ok x how w) := by
  have C := Lib.hid hc.bound
  have HZ := Lib.hid hz
  obtain ⟨A1, n1, m1, A2, n2, m2, A3, n3, m3, rfl, rfl, rfl, rfl, rfl, rfl⟩ := shape hc
  generalize v.kind = ka at *
  generalize v.half = fa at *
  generalize v.text = ta at *
  have HO := Lib.hid (((Old.refl w).alloc (.cells #[.int .i64 ka, .int .i64 fa, .string ta, .slice A1 n1 m1, .slice A2 n2 m2, .slice A3 n3 m3] 27)).alloc (.cells #[.int .i64 0, .int .i64 0, .string ⟨#[]⟩, .slice none 0 0, .slice none 0 0, .slice none 0 0] 27))
  have RB := Lib.hid (show Blk ((w.alloc (.cells #[.int .i64 ka, .int .i64 fa, .string ta, .slice A1 n1 m1, .slice A2 n2 m2, .slice A3 n3 m3] 27)).alloc (.cells #[.int .i64 0, .int .i64 0, .string ⟨#[]⟩, .slice none 0 0, .slice none 0 0, .slice none 0 0] 27)) (w.heap.size + 1) #[.int .i64 0, .int .i64 0, .string ⟨#[]⟩, .slice none 0 0, .slice none 0 0, .slice none 0 0] 27 from Blk.new_ (by simp) _ _)
  have BA := Lib.hid ((Blk.new w #[.int .i64 ka, .int .i64 fa, .string ta, .slice A1 n1 m1, .slice A2 n2 m2, .slice A3 n3 m3] 27).alloc (.cells #[.int .i64 0, .int .i64 0, .string ⟨#[]⟩, .slice none 0 0, .slice none 0 0, .slice none 0 0] 27))
  have PV := Lib.hid (Old.refl ((w.alloc (.cells #[.int .i64 ka, .int .i64 fa, .string ta, .slice A1 n1 m1, .slice A2 n2 m2, .slice A3 n3 m3] 27)).alloc (.cells #[.int .i64 0, .int .i64 0, .string ⟨#[]⟩, .slice none 0 0, .slice none 0 0, .slice none 0 0] 27)))
  clear hc hz
  obtain ⟨ke, hke⟩ : ∃ y, y = x.kind := ⟨_, rfl⟩
  obtain ⟨fe, hfe⟩ : ∃ y, y = x.half := ⟨_, rfl⟩
  obtain ⟨te, hte⟩ : ∃ y, y = x.text := ⟨_, rfl⟩
  have KE := Lib.hid hke
  have FE := Lib.hid hfe
  have TE := Lib.hid hte
  clear hke hfe hte
  go_enter Tryz.func26, Tryz.ntmps26
  go_wp2_with (first
    | (go_at_call 42; go_must (refine (HZ.out _ (C.out.old (HO.out.trans (PV.out)))).mono ?_; rintro e w5 ⟨e0, e1, e2, e3, e4, e5, rfl, hk, ho⟩; have HO5 := Lib.hid (Old.trans (PV.out) ho); have bx := RB.out.old HO5.out; have x0 := bx.cell 0; have x1 := bx.cell 1; have x2 := bx.cell 2; have x3 := bx.cell 3; have x4 := bx.cell 4; have x5 := bx.cell 5; have f0 := bx.frozen 0; have f1 := bx.frozen 1; have f2 := bx.frozen 2; have f3 := bx.frozen 3; have f4 := bx.frozen 4; have f5 := bx.frozen 5; have hbl := bx.lt; have hsz := Old.size (PV.out); obtain ⟨E1, q1, r1, E2, q2, r2, E3, q3, r3, rfl, rfl, rfl, rfl, rfl, rfl⟩ := shape hk; rw [← KE.out, ← FE.out, ← TE.out] at hk ⊢; have HK := Lib.hid hk; clear hk ho bx)))
  refine bodyPost_ret (v := .tuple #[.agg #[.int .i64 ke, .int .i64 fe, .string te, .slice E1 q1 r1, .slice E2 q2 r2, .slice E3 q3 r3], .int .i64 how]) (by simp [results, Tryz.results26, go_sem, x0, x1, x2, x3, x4, x5]) rfl ?_
  have hst := six_stores w5 (w.heap.size + 1) (.int .i64 ke) (.int .i64 fe) (.string te) (.slice E1 q1 r1) (.slice E2 q2 r2) (.slice E3 q3 r3)
  simp only [size_alloc'] at hsz
  refine ⟨_, _, _, _, _, _, rfl, ?_, Old.chg_ (HO.out.trans HO5.out) hst fun b hb => Nat.ne_of_lt (by omega)⟩
  refine (HK.out.chg (Chg.mono hst fun b _ hb => ?_)).mono fun b hb _ => ?_
  · rcases hb with hb | hb <;> (try simp at hb) <;> omega
  · rcases hb with hb | hb
    · exact .inl hb.1
    · exact .inr (by (try simp at hb); omega)
set_option maxHeartbeats 4000000 in
set_option maxRecDepth 100000 in
theorem alone_transpose {v x : V} {how : Int} (w : World) (ok : Nat → Prop) (c0 c1 c2 c3 c4 c5 : Value) (hc : KV w ok v [c0, c1, c2, c3, c4, c5]) (hz : ∀ W, KV W (fun b => ok b ∧ b < w.heap.size) v [c0, c1, c2, c3, c4, c5] → Calls Tryz.prog 51 #[.string ⟨#[116, 114, 97, 110, 115, 112, 111, 115, 101]⟩, .agg #[c0, c1, c2, c3, c4, c5]] W (Gives (fun b => ok b ∧ b < w.heap.size) x how W)) :
    Calls Tryz.prog 26 #[.string ⟨#[116, 114, 97, 110, 115, 112, 111, 115, 101]⟩, .agg #[c0, c1, c2, c3, c4, c5]] w (Gives ok x how w) := by
  have C := Lib.hid hc.bound
  have HZ := Lib.hid hz
  obtain ⟨A1, n1, m1, A2, n2, m2, A3, n3, m3, rfl, rfl, rfl, rfl, rfl, rfl⟩ := shape hc
  generalize v.kind = ka at *
  generalize v.half = fa at *
  generalize v.text = ta at *
  have HO := Lib.hid (((Old.refl w).alloc (.cells #[.int .i64 ka, .int .i64 fa, .string ta, .slice A1 n1 m1, .slice A2 n2 m2, .slice A3 n3 m3] 27)).alloc (.cells #[.int .i64 0, .int .i64 0, .string ⟨#[]⟩, .slice none 0 0, .slice none 0 0, .slice none 0 0] 27))
  have RB := Lib.hid (show Blk ((w.alloc (.cells #[.int .i64 ka, .int .i64 fa, .string ta, .slice A1 n1 m1, .slice A2 n2 m2, .slice A3 n3 m3] 27)).alloc (.cells #[.int .i64 0, .int .i64 0, .string ⟨#[]⟩, .slice none 0 0, .slice none 0 0, .slice none 0 0] 27)) (w.heap.size + 1) #[.int .i64 0, .int .i64 0, .string ⟨#[]⟩, .slice none 0 0, .slice none 0 0, .slice none 0 0] 27 from Blk.new_ (by simp) _ _)
  have BA := Lib.hid ((Blk.new w #[.int .i64 ka, .int .i64 fa, .string ta, .slice A1 n1 m1, .slice A2 n2 m2, .slice A3 n3 m3] 27).alloc (.cells #[.int .i64 0, .int .i64 0, .string ⟨#[]⟩, .slice none 0 0, .slice none 0 0, .slice none 0 0] 27))
  have PV := Lib.hid (Old.refl ((w.alloc (.cells #[.int .i64 ka, .int .i64 fa, .string ta, .slice A1 n1 m1, .slice A2 n2 m2, .slice A3 n3 m3] 27)).alloc (.cells #[.int .i64 0, .int .i64 0, .string ⟨#[]⟩, .slice none 0 0, .slice none 0 0, .slice none 0 0] 27)))
  clear hc hz
  obtain ⟨ke, hke⟩ : ∃ y, y = x.kind := ⟨_, rfl⟩
  obtain ⟨fe, hfe⟩ : ∃ y, y = x.half := ⟨_, rfl⟩
  obtain ⟨te, hte⟩ : ∃ y, y = x.text := ⟨_, rfl⟩
  have KE := Lib.hid hke
  have FE := Lib.hid hfe
  have TE := Lib.hid hte
  clear hke hfe hte
  go_enter Tryz.func26, Tryz.ntmps26
  go_wp2_with (first
    | (go_at_call 51; go_must (refine (HZ.out _ (C.out.old (HO.out.trans (PV.out)))).mono ?_; rintro e w5 ⟨e0, e1, e2, e3, e4, e5, rfl, hk, ho⟩; have HO5 := Lib.hid (Old.trans (PV.out) ho); have bx := RB.out.old HO5.out; have x0 := bx.cell 0; have x1 := bx.cell 1; have x2 := bx.cell 2; have x3 := bx.cell 3; have x4 := bx.cell 4; have x5 := bx.cell 5; have f0 := bx.frozen 0; have f1 := bx.frozen 1; have f2 := bx.frozen 2; have f3 := bx.frozen 3; have f4 := bx.frozen 4; have f5 := bx.frozen 5; have hbl := bx.lt; have hsz := Old.size (PV.out); obtain ⟨E1, q1, r1, E2, q2, r2, E3, q3, r3, rfl, rfl, rfl, rfl, rfl, rfl⟩ := shape hk; rw [← KE.out, ← FE.out, ← TE.out] at hk ⊢; have HK := Lib.hid hk; clear hk ho bx)))
  refine bodyPost_ret (v := .tuple #[.agg #[.int .i64 ke, .int .i64 fe, .string te, .slice E1 q1 r1, .slice E2 q2 r2, .slice E3 q3 r3], .int .i64 how]) (by simp [results, Tryz.results26, go_sem, x0, x1, x2, x3, x4, x5]) rfl ?_
  have hst := six_stores w5 (w.heap.size + 1) (.int .i64 ke) (.int .i64 fe) (.string te) (.slice E1 q1 r1) (.slice E2 q2 r2) (.slice E3 q3 r3)
  simp only [size_alloc'] at hsz
  refine ⟨_, _, _, _, _, _, rfl, ?_, Old.chg_ (HO.out.trans HO5.out) hst fun b hb => Nat.ne_of_lt (by omega)⟩
  refine (HK.out.chg (Chg.mono hst fun b _ hb => ?_)).mono fun b hb _ => ?_
  · rcases hb with hb | hb <;> (try simp at hb) <;> omega
  · rcases hb with hb | hb
    · exact .inl hb.1
    · exact .inr (by (try simp at hb); omega)
set_option maxHeartbeats 4000000 in
set_option maxRecDepth 100000 in
theorem call_length {v x : V} {how : Int} (hg : Good v) (w : World) (ok : Nat → Prop) (c0 c1 c2 c3 c4 c5 : Value) (hc : KV w ok v [c0, c1, c2, c3, c4, c5]) (hz : ∀ W, KV W (fun b => ok b ∧ b < w.heap.size) v [c0, c1, c2, c3, c4, c5] → Calls Tryz.prog 26 #[.string ⟨#[108, 101, 110, 103, 116, 104]⟩, .agg #[c0, c1, c2, c3, c4, c5]] W (Gives (fun b => ok b ∧ b < w.heap.size) x how W)) :
    Calls Tryz.prog 9 #[.string ⟨#[108, 101, 110, 103, 116, 104]⟩, .agg #[c0, c1, c2, c3, c4, c5], .slice none 0 0] w (Gives ok x how w) := by
  have C := Lib.hid hc.bound
  have HZ := Lib.hid hz
  obtain ⟨A1, n1, m1, A2, n2, m2, A3, n3, m3, rfl, rfl, rfl, rfl, rfl, rfl⟩ := shape hc
  generalize v.kind = ka at *
  generalize v.half = fa at *
  generalize v.text = ta at *
  have HO := Lib.hid (((Old.refl w).alloc (.cells #[.int .i64 ka, .int .i64 fa, .string ta, .slice A1 n1 m1, .slice A2 n2 m2, .slice A3 n3 m3] 27)).alloc (.cells #[.int .i64 0, .int .i64 0, .string ⟨#[]⟩, .slice none 0 0, .slice none 0 0, .slice none 0 0] 27))
  have RB := Lib.hid (show Blk ((w.alloc (.cells #[.int .i64 ka, .int .i64 fa, .string ta, .slice A1 n1 m1, .slice A2 n2 m2, .slice A3 n3 m3] 27)).alloc (.cells #[.int .i64 0, .int .i64 0, .string ⟨#[]⟩, .slice none 0 0, .slice none 0 0, .slice none 0 0] 27)) (w.heap.size + 1) #[.int .i64 0, .int .i64 0, .string ⟨#[]⟩, .slice none 0 0, .slice none 0 0, .slice none 0 0] 27 from Blk.new_ (by simp) _ _)
  have BA := Lib.hid ((Blk.new w #[.int .i64 ka, .int .i64 fa, .string ta, .slice A1 n1 m1, .slice A2 n2 m2, .slice A3 n3 m3] 27).alloc (.cells #[.int .i64 0, .int .i64 0, .string ⟨#[]⟩, .slice none 0 0, .slice none 0 0, .slice none 0 0] 27))
  have VG := Lib.hid (vague_any hg ((w.alloc (.cells #[.int .i64 ka, .int .i64 fa, .string ta, .slice A1 n1 m1, .slice A2 n2 m2, .slice A3 n3 m3] 27)).alloc (.cells #[.int .i64 0, .int .i64 0, .string ⟨#[]⟩, .slice none 0 0, .slice none 0 0, .slice none 0 0] 27)) (fun b => ok b ∧ b < w.heap.size) _ _ _ _ _ _ (C.out.old HO.out))
  clear hg
  clear hc hz
  obtain ⟨ke, hke⟩ : ∃ y, y = x.kind := ⟨_, rfl⟩
  obtain ⟨fe, hfe⟩ : ∃ y, y = x.half := ⟨_, rfl⟩
  obtain ⟨te, hte⟩ : ∃ y, y = x.text := ⟨_, rfl⟩
  have KE := Lib.hid hke
  have FE := Lib.hid hfe
  have TE := Lib.hid hte
  clear hke hfe hte
  go_enter Tryz.func9, Tryz.ntmps9
  go_wp2_with (first
    | (go_at_call 26; go_must (refine (HZ.out _ (C.out.old (HO.out.trans (HO4.out)))).mono ?_; rintro e w5 ⟨e0, e1, e2, e3, e4, e5, rfl, hk, ho⟩; have HO5 := Lib.hid (Old.trans (HO4.out) ho); have bx := RB.out.old HO5.out; have x0 := bx.cell 0; have x1 := bx.cell 1; have x2 := bx.cell 2; have x3 := bx.cell 3; have x4 := bx.cell 4; have x5 := bx.cell 5; have f0 := bx.frozen 0; have f1 := bx.frozen 1; have f2 := bx.frozen 2; have f3 := bx.frozen 3; have f4 := bx.frozen 4; have f5 := bx.frozen 5; have hbl := bx.lt; have hsz := Old.size (HO4.out); obtain ⟨E1, q1, r1, E2, q2, r2, E3, q3, r3, rfl, rfl, rfl, rfl, rfl, rfl⟩ := shape hk; rw [← KE.out, ← FE.out, ← TE.out] at hk ⊢; have HK := Lib.hid hk; clear hk ho bx))
    | (go_at_call 24; first | (have hq := HO3; clear hq; go_must (refine (vague_any array_nil w3 (fun _ => True) _ _ _ _ _ _ (KV.leaf _ _ 5 0 nilS)).mono ?_; rintro e w4 ⟨rfl, ho⟩; have HO4 := Lib.hid (HO2.out.trans (HO3.out.trans ho)); clear y0 y1 y2 y3 y4 y5 hlA; have bA := BA.out.old HO4.out; have y0 := bA.cell 0; have y1 := bA.cell 1; have y2 := bA.cell 2; have y3 := bA.cell 3; have y4 := bA.cell 4; have y5 := bA.cell 5; have hlA := bA.lt; clear ho bA)) | (refine VG.out.mono ?_; rintro e w2 ⟨rfl, ho⟩; have HO2 := Lib.hid ho; have bA := BA.out.old ho; have y0 := bA.cell 0; have y1 := bA.cell 1; have y2 := bA.cell 2; have y3 := bA.cell 3; have y4 := bA.cell 4; have y5 := bA.cell 5; have hlA := bA.lt; clear ho bA))
    | (go_at_call 25; go_must (refine (array_any _).mono ?_; rintro e w3 ⟨rfl, ho⟩; have HO3 := Lib.hid ho; clear ho)))
  refine bodyPost_ret (v := .tuple #[.agg #[.int .i64 ke, .int .i64 fe, .string te, .slice E1 q1 r1, .slice E2 q2 r2, .slice E3 q3 r3], .int .i64 how]) (by simp [results, Tryz.results9, go_sem, x0, x1, x2, x3, x4, x5]) rfl ?_
  have hst := six_stores w5 (w.heap.size + 1) (.int .i64 ke) (.int .i64 fe) (.string te) (.slice E1 q1 r1) (.slice E2 q2 r2) (.slice E3 q3 r3)
  simp only [size_alloc'] at hsz
  refine ⟨_, _, _, _, _, _, rfl, ?_, Old.chg_ (HO.out.trans HO5.out) hst fun b hb => Nat.ne_of_lt (by omega)⟩
  refine (HK.out.chg (Chg.mono hst fun b _ hb => ?_)).mono fun b hb _ => ?_
  · rcases hb with hb | hb <;> (try simp at hb) <;> omega
  · rcases hb with hb | hb
    · exact .inl hb.1
    · exact .inr (by (try simp at hb); omega)
set_option maxHeartbeats 4000000 in
set_option maxRecDepth 100000 in
theorem call_transpose {v x : V} {how : Int} (hg : Good v) (w : World) (ok : Nat → Prop) (c0 c1 c2 c3 c4 c5 : Value) (hc : KV w ok v [c0, c1, c2, c3, c4, c5]) (hz : ∀ W, KV W (fun b => ok b ∧ b < w.heap.size) v [c0, c1, c2, c3, c4, c5] → Calls Tryz.prog 26 #[.string ⟨#[116, 114, 97, 110, 115, 112, 111, 115, 101]⟩, .agg #[c0, c1, c2, c3, c4, c5]] W (Gives (fun b => ok b ∧ b < w.heap.size) x how W)) :
    Calls Tryz.prog 9 #[.string ⟨#[116, 114, 97, 110, 115, 112, 111, 115, 101]⟩, .agg #[c0, c1, c2, c3, c4, c5], .slice none 0 0] w (Gives ok x how w) := by
  have C := Lib.hid hc.bound
  have HZ := Lib.hid hz
  obtain ⟨A1, n1, m1, A2, n2, m2, A3, n3, m3, rfl, rfl, rfl, rfl, rfl, rfl⟩ := shape hc
  generalize v.kind = ka at *
  generalize v.half = fa at *
  generalize v.text = ta at *
  have HO := Lib.hid (((Old.refl w).alloc (.cells #[.int .i64 ka, .int .i64 fa, .string ta, .slice A1 n1 m1, .slice A2 n2 m2, .slice A3 n3 m3] 27)).alloc (.cells #[.int .i64 0, .int .i64 0, .string ⟨#[]⟩, .slice none 0 0, .slice none 0 0, .slice none 0 0] 27))
  have RB := Lib.hid (show Blk ((w.alloc (.cells #[.int .i64 ka, .int .i64 fa, .string ta, .slice A1 n1 m1, .slice A2 n2 m2, .slice A3 n3 m3] 27)).alloc (.cells #[.int .i64 0, .int .i64 0, .string ⟨#[]⟩, .slice none 0 0, .slice none 0 0, .slice none 0 0] 27)) (w.heap.size + 1) #[.int .i64 0, .int .i64 0, .string ⟨#[]⟩, .slice none 0 0, .slice none 0 0, .slice none 0 0] 27 from Blk.new_ (by simp) _ _)
  have BA := Lib.hid ((Blk.new w #[.int .i64 ka, .int .i64 fa, .string ta, .slice A1 n1 m1, .slice A2 n2 m2, .slice A3 n3 m3] 27).alloc (.cells #[.int .i64 0, .int .i64 0, .string ⟨#[]⟩, .slice none 0 0, .slice none 0 0, .slice none 0 0] 27))
  have VG := Lib.hid (vague_any hg ((w.alloc (.cells #[.int .i64 ka, .int .i64 fa, .string ta, .slice A1 n1 m1, .slice A2 n2 m2, .slice A3 n3 m3] 27)).alloc (.cells #[.int .i64 0, .int .i64 0, .string ⟨#[]⟩, .slice none 0 0, .slice none 0 0, .slice none 0 0] 27)) (fun b => ok b ∧ b < w.heap.size) _ _ _ _ _ _ (C.out.old HO.out))
  clear hg
  clear hc hz
  obtain ⟨ke, hke⟩ : ∃ y, y = x.kind := ⟨_, rfl⟩
  obtain ⟨fe, hfe⟩ : ∃ y, y = x.half := ⟨_, rfl⟩
  obtain ⟨te, hte⟩ : ∃ y, y = x.text := ⟨_, rfl⟩
  have KE := Lib.hid hke
  have FE := Lib.hid hfe
  have TE := Lib.hid hte
  clear hke hfe hte
  go_enter Tryz.func9, Tryz.ntmps9
  go_wp2_with (first
    | (go_at_call 26; go_must (refine (HZ.out _ (C.out.old (HO.out.trans (HO4.out)))).mono ?_; rintro e w5 ⟨e0, e1, e2, e3, e4, e5, rfl, hk, ho⟩; have HO5 := Lib.hid (Old.trans (HO4.out) ho); have bx := RB.out.old HO5.out; have x0 := bx.cell 0; have x1 := bx.cell 1; have x2 := bx.cell 2; have x3 := bx.cell 3; have x4 := bx.cell 4; have x5 := bx.cell 5; have f0 := bx.frozen 0; have f1 := bx.frozen 1; have f2 := bx.frozen 2; have f3 := bx.frozen 3; have f4 := bx.frozen 4; have f5 := bx.frozen 5; have hbl := bx.lt; have hsz := Old.size (HO4.out); obtain ⟨E1, q1, r1, E2, q2, r2, E3, q3, r3, rfl, rfl, rfl, rfl, rfl, rfl⟩ := shape hk; rw [← KE.out, ← FE.out, ← TE.out] at hk ⊢; have HK := Lib.hid hk; clear hk ho bx))
    | (go_at_call 24; first | (have hq := HO3; clear hq; go_must (refine (vague_any array_nil w3 (fun _ => True) _ _ _ _ _ _ (KV.leaf _ _ 5 0 nilS)).mono ?_; rintro e w4 ⟨rfl, ho⟩; have HO4 := Lib.hid (HO2.out.trans (HO3.out.trans ho)); clear y0 y1 y2 y3 y4 y5 hlA; have bA := BA.out.old HO4.out; have y0 := bA.cell 0; have y1 := bA.cell 1; have y2 := bA.cell 2; have y3 := bA.cell 3; have y4 := bA.cell 4; have y5 := bA.cell 5; have hlA := bA.lt; clear ho bA)) | (refine VG.out.mono ?_; rintro e w2 ⟨rfl, ho⟩; have HO2 := Lib.hid ho; have bA := BA.out.old ho; have y0 := bA.cell 0; have y1 := bA.cell 1; have y2 := bA.cell 2; have y3 := bA.cell 3; have y4 := bA.cell 4; have y5 := bA.cell 5; have hlA := bA.lt; clear ho bA))
    | (go_at_call 25; go_must (refine (array_any _).mono ?_; rintro e w3 ⟨rfl, ho⟩; have HO3 := Lib.hid ho; clear ho)))
  refine bodyPost_ret (v := .tuple #[.agg #[.int .i64 ke, .int .i64 fe, .string te, .slice E1 q1 r1, .slice E2 q2 r2, .slice E3 q3 r3], .int .i64 how]) (by simp [results, Tryz.results9, go_sem, x0, x1, x2, x3, x4, x5]) rfl ?_
  have hst := six_stores w5 (w.heap.size + 1) (.int .i64 ke) (.int .i64 fe) (.string te) (.slice E1 q1 r1) (.slice E2 q2 r2) (.slice E3 q3 r3)
  simp only [size_alloc'] at hsz
  refine ⟨_, _, _, _, _, _, rfl, ?_, Old.chg_ (HO.out.trans HO5.out) hst fun b hb => Nat.ne_of_lt (by omega)⟩
  refine (HK.out.chg (Chg.mono hst fun b _ hb => ?_)).mono fun b hb _ => ?_
  · rcases hb with hb | hb <;> (try simp at hb) <;> omega
  · rcases hb with hb | hb
    · exact .inl hb.1
    · exact .inr (by (try simp at hb); omega)
end Go.Proofs.YtpoanncombcemaaGreatDoor
