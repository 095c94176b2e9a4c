/-
  A map of the program as the package hands it back: the walk.
  Conditions: the values are right.
-/
import Derived.Test.YtehfmaiogbehgaaDoorFrom6
import Derived.Test.YtehfmaiogbehgaaDoorHeld
import Derived.Deep.RegionHeld3
import Derived.Deep.Cut
import Derived.Deep.CutRange
import Derived.Deep.Light
import Derived.Deep.DrawnRows
namespace Go.Proofs.YtehfmaiogbehgaaDoor
open Go.RowKit Go.Maps Go.Sort
attribute [local go_sem ↓] Go.wp_at_zero Go.wp_at_succ

theorem size_mapD (ks : List ByteArray) (xs : List Value) (h : ks.length = xs.length) : Maps.size (mapD ks xs) = ks.length := by
  simp [Maps.size, mapD, h]
theorem enc_key (k : ByteArray) : encStr k.data.toList = .string k := by simp [encStr]
theorem sorted_row {w : World} {base : Nat} {v : Value} {ks : List ByteArray} {xs : List Value} {ss : List (List UInt8)} (hr : Rising ks) (hl : ks.length = xs.length) (hp : ss.Perm (strKeys (mapD ks xs))) (h : w.ownsRow base 9 1 v ss.length ((ss.mergeSort (fun x y => decide (x ≤ y))).map encStr)) :
    w.ownsRow base 9 1 v ks.length (ks.map Value.string) := by
  have hs := sorted_keys hr hl hp
  have hlen : ss.length = ks.length := by
    have := hp.length_eq
    rw [strKeys_mapD ks xs hl, List.length_map] at this
    exact this
  rw [hs, hlen, List.map_map] at h
  have e : (encStr ∘ fun k : ByteArray => k.data.toList) = Value.string := funext fun k => enc_key k
  rw [e] at h
  exact h
theorem key_cells {w : World} {base : Nat} {v : Value} {ks : List ByteArray} (h : w.ownsRow base 9 1 v ks.length (ks.map Value.string)) : SliceV w (fun _ => True) v 1 ks.length fun i => [.string (ks.getD i nilS)] :=
  SliceV.of_own h (fun _ _ => trivial) fun i hi => ⟨rfl, fun j hj => by
    obtain rfl : j = 0 := by omega
    simp [hi]⟩

theorem old_below {n : Nat} {a b : World} (h : Below n a b) (hn : a.heap.size = n) : Old a b := by
  subst hn
  exact Old.of_below h
/-- The start of the loop. -/
theorem ComeM.start {w w1 : World} {o1 o2 o3 : Obj} {vS : Value} {ks : List ByteArray} {vs : List J} (h1 : o1 = .cells #[.int .i64 0, .int .i64 0, .string ⟨#[]⟩, .slice none 0 0, .slice none 0 0, .slice none 0 0] 27) (h2 : o2 = .cells #[.int .i64 6, .int .i64 0, .string ⟨#[]⟩, .slice none 0 0, .slice none 0 0, .slice none 0 0] 27)
    (ho : Old (((w.alloc o1).alloc o2).alloc o3) w1) (hrow : w1.ownsRow (w.heap.size + 3) 9 1 vS ks.length (ks.map Value.string)) : ComeM w w1 w1.heap.size vS ks vs 0 (.slice none 0 0) (.slice none 0 0) [] := by
  subst h1 h2
  have hs := ho.size
  simp at hs
  have hb1 := ((Blk.new w #[.int .i64 0, .int .i64 0, .string ⟨#[]⟩, .slice none 0 0, .slice none 0 0, .slice none 0 0] 27).alloc (.cells #[.int .i64 6, .int .i64 0, .string ⟨#[]⟩, .slice none 0 0, .slice none 0 0, .slice none 0 0] 27)).alloc o3
  have hb2 := (Blk.new (w.alloc (.cells #[.int .i64 0, .int .i64 0, .string ⟨#[]⟩, .slice none 0 0, .slice none 0 0, .slice none 0 0] 27)) #[.int .i64 6, .int .i64 0, .string ⟨#[]⟩, .slice none 0 0, .slice none 0 0, .slice none 0 0] 27).alloc o3
  rw [show (w.alloc (.cells #[.int .i64 0, .int .i64 0, .string ⟨#[]⟩, .slice none 0 0, .slice none 0 0, .slice none 0 0] 27)).heap.size = w.heap.size + 1 by simp] at hb2
  exact ⟨hb1.old ho, hb2.old ho, by omega, own_lower hrow (by omega), fun b hb => (own_lt hrow hb).2, ⟨rfl, .inl ⟨rfl, rfl⟩⟩, ⟨rfl, .inl ⟨rfl, rfl⟩⟩, fun j hj => absurd hj (by omega), (((Old.refl w).alloc _).alloc _).alloc _ |>.trans ho, Nat.le_refl _⟩

theorem size1 (w : World) (a : Obj) : (w.alloc a).heap.size = w.heap.size + 1 := by simp
theorem size2 (w : World) (a b : Obj) : ((w.alloc a).alloc b).heap.size = w.heap.size + 2 := by simp
theorem Blk.new_ {w : World} {B : Nat} (hB : w.heap.size = B) (cs : Array Value) (t : TypeId) : Blk (w.alloc (.cells cs t)) B cs t := by
  subst hB
  exact Blk.new w cs t
/-- A block that is newer than the rows is left alone by an append. -/
theorem ComeM.side {w wr W1 w3 : World} {N : Nat} {vS : Value} {ks : List ByteArray} {vs : List J} {k : Nat} {v4 v5 : Value} {zs : List Value} (h : ComeM w wr N vS ks vs k v4 v5 zs) (hg : W1.grownBy w3 v4.ownBlock) {b : Nat} {cs : Array Value} {t : TypeId} (hb : Blk W1 b cs t) (hlow : wr.heap.size ≤ b) : Blk w3 b cs t := by
  refine hb.chg (Chg.grown (ok := fun b => some b ≠ v4.ownBlock) (Chg.refl _ _) hg fun _ _ ho => ho) fun e => ?_
  have := (own_lt h.keys e.symm).2
  omega
theorem ComeM.side5 {w wr W1 w3 : World} {N : Nat} {vS : Value} {ks : List ByteArray} {vs : List J} {k : Nat} {v4 v5 : Value} {zs : List Value} (h : ComeM w wr N vS ks vs k v4 v5 zs) (hg : W1.grownBy w3 v5.ownBlock) {b : Nat} {cs : Array Value} {t : TypeId} (hb : Blk W1 b cs t) (hlow : wr.heap.size ≤ b ∨ b < N) : Blk w3 b cs t := by
  refine hb.chg (Chg.grown (ok := fun b => some b ≠ v5.ownBlock) (Chg.refl _ _) hg fun _ _ ho => ho) fun e => ?_
  have := own_lt h.row e.symm
  omega
theorem Tryd.infoStr : (Tryd.prog.info? 9).map (fun i => (i.zero, i.size, i.bytes)) = some (some (.string ⟨#[]⟩), 1, 16) := by kernel_rfl
theorem news_a {W : World} {B : Nat} (hB : W.heap.size = B) (cs : Array Value) (t : TypeId) (n : Nat) : ∀ j u, cs.toList[j]? = some u → ((W.alloc (.cells cs t)).drewN n).cell? ((⟨B, 0, none⟩ : Addr).add j) = some u := by
  subst hB
  exact news_blk ((Blk.new W cs t).drewN n)
theorem news_b {W : World} {B : Nat} (hB : W.heap.size = B) (cs : Array Value) (t : TypeId) (o : Obj) (n : Nat) : ∀ j u, cs.toList[j]? = some u → (((W.alloc (.cells cs t)).alloc o).drewN n).cell? ((⟨B, 0, none⟩ : Addr).add j) = some u := by
  subst hB
  exact news_blk (((Blk.new W cs t).alloc o).drewN n)

/-- The loop's end: the values, as they are read. -/
theorem ComeM.done {w wr : World} {N : Nat} {vS : Value} {ks : List ByteArray} {vs : List J} {v4 v5 : Value} {zs : List Value} (h : ComeM w wr N vS ks vs ks.length v4 v5 zs) (hkv : ks.length = vs.length) : KVs wr (fun b => N ≤ b) (ofJs vs) v5 := by
  have hl : (ofJs vs).length = ks.length := by rw [ofJs_map, List.length_map, hkv]
  have hlen : zs.length = ks.length * 6 := h.row.1
  refine ⟨fun j => (zs.drop (j * 6)).take 6, ?_, fun i hi => ?_⟩
  · rw [hl]
    refine SliceV.of_own h.row (fun b hb => (own_lt h.row hb).1) fun i hi => ⟨?_, fun j hj => ?_⟩
    · rw [List.length_take, List.length_drop]
      omega
    · rw [List.getElem?_take_of_lt hj, List.getElem?_drop]
  · rw [hl] at hi
    have e : (ofJs vs)[i]'(by rw [hl]; exact hi) = ofJ (jth vs i) := by simp [ofJs_map, jth, hkv ▸ hi]
    rw [e]
    exact (h.each i hi).mono fun b hb _ => hb.1
theorem key_cells_at {w : World} {base : Nat} {v : Value} {ks : List ByteArray} (h : w.ownsRow base 9 1 v ks.length ((ks.take ks.length).map Value.string)) : SliceV w (fun b => base ≤ b) v 1 ks.length fun i => [.string (ks.getD i nilS)] := by
  rw [List.take_length] at h
  exact SliceV.of_own h (fun b hb => (own_lt h hb).1) fun i hi => ⟨rfl, fun j hj => by
    obtain rfl : j = 0 := by omega
    simp [hi]⟩
/-- Two blocks lie as they lay. -/
def Pair (g : Nat) (a : Array Value) (g' : Nat) (b : Array Value) (w : World) : Prop := Blk w g a 27 ∧ Blk w g' b 27

set_option maxHeartbeats 4000000 in
set_option maxRecDepth 100000 in
theorem mapFromGo_any : FromsM := by
  intro ks vs hv kv hks hkt ih w ok b xs hm hxl hr
  have hkx : ks.length = xs.length := by omega
  have ho0 := ((Old.refl w).alloc (.cells #[.int .i64 0, .int .i64 0, .string ⟨#[]⟩, .slice none 0 0, .slice none 0 0, .slice none 0 0] 27)).alloc (.cells #[.int .i64 6, .int .i64 0, .string ⟨#[]⟩, .slice none 0 0, .slice none 0 0, .slice none 0 0] 27)
  have hm0 : MapV _ b ks xs := hm.step (ho0.block b hm.lt trivial)
  obtain ⟨nn, hown0, hnn⟩ := hm0
  have HS := Lib.hid (sorted_any b nn (mapD ks xs) held _ hown0 (by rw [size_mapD ks xs hkx]; unfold maxLen; omega) (by rw [size_mapD ks xs hkx]; omega))
  have hsa : ∀ (w : World) (o : Obj), (w.alloc o).heap.size = w.heap.size + 1 := fun w o => by simp
  have hs1 := HS.out
  simp only [hsa, Nat.add_assoc, Nat.reduceAdd] at hs1
  have HS1 := Lib.hid hs1
  clear hs1 HS hsa
  have HM := Lib.hid hm
  have HR := Lib.hid hr
  have IH := Lib.hid ih
  have HKS := Lib.hid hks
  have HKT := Lib.hid hkt
  have HKV := Lib.hid kv
  have HXL := Lib.hid hxl
  have HKX := Lib.hid hkx
  obtain ⟨iv, hi, hz0, hz1, hz2⟩ := info_parts Tryd.infoVal
  have HI := Lib.hid hi
  have HZ0 := Lib.hid hz0
  have HZ1 := Lib.hid hz1
  have HZ2 := Lib.hid hz2
  clear hi hz0 hz1 hz2
  obtain ⟨is, hi, hz0, hz1, hz2⟩ := info_parts Tryd.infoStr
  have GI := Lib.hid hi
  have GZ0 := Lib.hid hz0
  have GZ1 := Lib.hid hz1
  have GZ2 := Lib.hid hz2
  clear hi hz0 hz1 hz2
  have hkb : ks.length ≤ 1048576 := by omega
  clear ho0 hown0 hm hr ih hks hkt hnn kv hxl hkx
  go_enter Tryd.func26, Tryd.ntmps26
  go_wp2_with (first
    | (go_at_call 30; refine (keys_any _ _).mono ?_; rintro e w' ⟨rfl, rfl⟩)
    | (go_at_call 29; go_must (refine HS1.out.mono ?_; rintro e w1 ⟨vS, ss, rfl, hp, hrow, _, hbel⟩; have hrow' := sorted_row HKS.out HKX.out hp hrow; have HROW := Lib.hid hrow'; have HO1 := Lib.hid (old_below hbel (by simp)); obtain ⟨AS, nS, rfl⟩ := own_len hrow'; have hcap := own_cap hrow'; clear hp hrow hbel hrow')))
  go_loopg [14] ks.length (fun gk s14 wr => ∃ k v4 v5 zs, k + gk = ks.length ∧ s14 = .int .i64 k ∧ ComeM w wr w1.heap.size (.slice AS ks.length nS) ks vs k v4 v5 zs)
  case atStart => exact ⟨0, _, _, _, by simp, rfl, ComeM.start rfl rfl HO1.out HROW.out⟩
  case round =>
    obtain ⟨k, v4, v5, zs, hk, rfl, R⟩ := hrel
    have HK := Lib.hid hk
    have R0 := Lib.hid R
    obtain ⟨A4, n4, rfl⟩ := own_len R.keys
    obtain ⟨A5, n5, rfl⟩ := own_len R.row
    by_cases hlt : k < ks.length
    · obtain ⟨bS, oS, rfl, hbS, k0⟩ := keyAt (key_cells R.sorted) k hlt
      have hlk := look_up (HM.out.step (R.old.block b HM.out.lt trivial)) HKS.out HKX.out HKT.out k hlt
      have hltv : k < vs.length := by rw [← HKV.out]; exact hlt
      have hx := (HR.out k hltv).old R.old
      obtain ⟨x, hxx⟩ : ∃ x, x = xs.getD k .nilIface := ⟨_, rfl⟩
      obtain ⟨s, hss⟩ : ∃ s, s = kth ks k := ⟨_, rfl⟩
      rw [← hxx] at hlk hx
      rw [← hss] at hlk k0
      have HX := Lib.hid hx
      have HSS := Lib.hid hss
      clear hxx hss R
      all_goals
        clear hx
        go_upto_region 8 with (go_at_call 15; go_must (refine (IH.out _ (List.getElem_mem hltv) _ ok _ HX.out).mono ?_; rintro e w2 ⟨d0, d1, d2, d3, d4, d5, rfl, hv, ho⟩; rw [jth_eq] at hv; have HO := Lib.hid ho; have hob := R0.out.out.old ho; have OB := Lib.hid hob; obtain ⟨B1, q1, p1, B2, q2, p2, B3, q3, p3, rfl, rfl, rfl, rfl, rfl, rfl⟩ := shape hv; obtain ⟨kd, hkd⟩ : ∃ x, x = (ofJ (jth vs k)).kind := ⟨_, rfl⟩; obtain ⟨hf, hhf⟩ : ∃ x, x = (ofJ (jth vs k)).half := ⟨_, rfl⟩; obtain ⟨tx, htx⟩ : ∃ x, x = (ofJ (jth vs k)).text := ⟨_, rfl⟩; rw [← hkd, ← hhf, ← htx] at hv ⊢; have HV := Lib.hid hv; clear hv hkd hhf htx ho hob))
        have BO0 := Lib.hid ((OB.out.alloc (.cells #[.int .i64 kd, .int .i64 hf, .string tx, .slice B1 q1 p1, .slice B2 q2 p2, .slice B3 q3 p3] 27)).drew)
        have BV0 := Lib.hid ((Blk.new w2 #[.int .i64 kd, .int .i64 hf, .string tx, .slice B1 q1 p1, .slice B2 q2 p2, .slice B3 q3 p3] 27).drew)
        refine AnyL.region 14 (S := Til 9 (Pair (w.heap.size + 1) #[.int .i64 6, .int .i64 0, .string ⟨#[]⟩, .slice none 0 0, .slice A4 k n4, .slice A5 k n5] w2.heap.size #[.int .i64 kd, .int .i64 hf, .string tx, .slice B1 q1 p1, .slice B2 q2 p2, .slice B3 q3 p3])) rfl (by kernel_rfl) (fun hC => ?_)
        have hS : Til 9 (Pair (w.heap.size + 1) #[.int .i64 6, .int .i64 0, .string ⟨#[]⟩, .slice none 0 0, .slice A4 k n4, .slice A5 k n5] w2.heap.size #[.int .i64 kd, .int .i64 hf, .string tx, .slice B1 q1 p1, .slice B2 q2 p2, .slice B3 q3 p3]) (Array.replicate 14 false) ((w2.alloc (.cells #[.int .i64 kd, .int .i64 hf, .string tx, .slice B1 q1 p1, .slice B2 q2 p2, .slice B3 q3 p3] 27)).drew) := Til.mk (And.intro BO0.out BV0.out)
        refine AnyL.take (i := 0) (v := .pointer (some ⟨w.heap.size + 1, 4, none⟩)) (some 28) (fun _ => True) rfl (by kernel_rfl) (by kernel_rfl) (by kernel_rfl) (fun _ _ _ h => h) (fun _ _ _ _ _ => trivial) (fun l w' => Til.set (by decide) l w') (fun _ ho => by cases ho; exact Or.inl ⟨by rfl, fun w' _ => by go_simp⟩) hC hS (fun hC hS => ?_)
        simp only [Act.put, List.setIfInBounds_toArray, List.set_cons_zero, List.set_cons_succ]
        refine AnyL.take (i := 2) (v := .string s) (some 30) (fun _ => True) rfl (by kernel_rfl) (by kernel_rfl) (by kernel_rfl) (fun _ _ _ h => h) (fun _ _ _ _ _ => trivial) (fun l w' => Til.set (by decide) l w') (fun _ ho => by cases ho; exact Or.inl ⟨by rfl, fun w' _ => by go_simp⟩) hC hS (fun hC hS => ?_)
        simp only [Act.put, List.setIfInBounds_toArray, List.set_cons_zero, List.set_cons_succ]
        refine AnyL.take (i := 5) (v := .pointer (some ⟨w.heap.size + 1, 5, none⟩)) (some 33) (fun _ => True) rfl (by kernel_rfl) (by kernel_rfl) (by kernel_rfl) (fun _ _ _ h => h) (fun _ _ _ _ _ => trivial) (fun l w' => Til.set (by decide) l w') (fun _ ho => by cases ho; exact Or.inl ⟨by rfl, fun w' _ => by go_simp⟩) hC hS (fun hC hS => ?_)
        simp only [Act.put, List.setIfInBounds_toArray, List.set_cons_zero, List.set_cons_succ]
        refine AnyL.take (i := 1) (v := .slice A4 k n4) (some 29) (Pair (w.heap.size + 1) #[.int .i64 6, .int .i64 0, .string ⟨#[]⟩, .slice none 0 0, .slice A4 k n4, .slice A5 k n5] w2.heap.size #[.int .i64 kd, .int .i64 hf, .string tx, .slice B1 q1 p1, .slice B2 q2 p2, .slice B3 q3 p3]) rfl (by kernel_rfl) (by kernel_rfl) (by kernel_rfl) (fun _ _ _ h => h) (fun l w' hC hl hS => hS (hC.un (j := 9) (i := 4) (by kernel_rfl) (hC.un (j := 4) (i := 1) (by kernel_rfl) hl))) (fun l w' => Til.set (by decide) l w') (fun _ ho => by cases ho; exact Or.inl ⟨by rfl, fun w' hB => by have h4 := hB.1.cell 4; go_simp⟩) hC hS (fun hC hS => ?_)
        simp only [Act.put, List.setIfInBounds_toArray, List.set_cons_zero, List.set_cons_succ]
        refine AnyL.take (i := 6) (v := .slice A5 k n5) (some 34) (Pair (w.heap.size + 1) #[.int .i64 6, .int .i64 0, .string ⟨#[]⟩, .slice none 0 0, .slice A4 k n4, .slice A5 k n5] w2.heap.size #[.int .i64 kd, .int .i64 hf, .string tx, .slice B1 q1 p1, .slice B2 q2 p2, .slice B3 q3 p3]) rfl (by kernel_rfl) (by kernel_rfl) (by kernel_rfl) (fun _ _ _ h => h) (fun l w' hC hl hS => hS (hC.un (j := 9) (i := 6) (by kernel_rfl) hl)) (fun l w' => Til.set (by decide) l w') (fun _ ho => by cases ho; exact Or.inl ⟨by rfl, fun w' hB => by have h5 := hB.1.cell 5; go_simp⟩) hC hS (fun hC hS => ?_)
        simp only [Act.put, List.setIfInBounds_toArray, List.set_cons_zero, List.set_cons_succ]
        refine AnyL.take (i := 7) (v := .agg #[.int .i64 kd, .int .i64 hf, .string tx, .slice B1 q1 p1, .slice B2 q2 p2, .slice B3 q3 p3]) (some 35) (Pair (w.heap.size + 1) #[.int .i64 6, .int .i64 0, .string ⟨#[]⟩, .slice none 0 0, .slice A4 k n4, .slice A5 k n5] w2.heap.size #[.int .i64 kd, .int .i64 hf, .string tx, .slice B1 q1 p1, .slice B2 q2 p2, .slice B3 q3 p3]) rfl (by kernel_rfl) (by kernel_rfl) (by kernel_rfl) (fun _ _ _ h => h) (fun l w' hC hl hS => hS (hC.un (j := 9) (i := 8) (by kernel_rfl) (hC.un (j := 8) (i := 7) (by kernel_rfl) hl))) (fun l w' => Til.set (by decide) l w') (fun _ ho => by cases ho; exact Or.inl ⟨by rfl, fun w' hB => by have h0 := hB.2.cell 0; have h1 := hB.2.cell 1; have h2 := hB.2.cell 2; have h3 := hB.2.cell 3; have h4 := hB.2.cell 4; have h5 := hB.2.cell 5; go_simp⟩) hC hS (fun hC hS => ?_)
        simp only [Act.put, List.setIfInBounds_toArray, List.set_cons_zero, List.set_cons_succ]
        have OBX : ∀ o1, Pair (w.heap.size + 1) #[.int .i64 6, .int .i64 0, .string ⟨#[]⟩, .slice none 0 0, .slice A4 k n4, .slice A5 k n5] w2.heap.size #[.int .i64 kd, .int .i64 hf, .string tx, .slice B1 q1 p1, .slice B2 q2 p2, .slice B3 q3 p3] (((w2.alloc (.cells #[.int .i64 kd, .int .i64 hf, .string tx, .slice B1 q1 p1, .slice B2 q2 p2, .slice B3 q3 p3] 27)).alloc o1).drew) := fun o1 => ⟨((OB.out.alloc _).alloc o1).drew, ((Blk.new w2 #[.int .i64 kd, .int .i64 hf, .string tx, .slice B1 q1 p1, .slice B2 q2 p2, .slice B3 q3 p3] 27).alloc o1).drew⟩
        have OBY : ∀ o1 o2, Pair (w.heap.size + 1) #[.int .i64 6, .int .i64 0, .string ⟨#[]⟩, .slice none 0 0, .slice A4 k n4, .slice A5 k n5] w2.heap.size #[.int .i64 kd, .int .i64 hf, .string tx, .slice B1 q1 p1, .slice B2 q2 p2, .slice B3 q3 p3] ((((w2.alloc (.cells #[.int .i64 kd, .int .i64 hf, .string tx, .slice B1 q1 p1, .slice B2 q2 p2, .slice B3 q3 p3] 27)).alloc o1).alloc o2).drew) := fun o1 o2 => ⟨(((OB.out.alloc _).alloc o1).alloc o2).drew, (((Blk.new w2 #[.int .i64 kd, .int .i64 hf, .string tx, .slice B1 q1 p1, .slice B2 q2 p2, .slice B3 q3 p3] 27).alloc o1).alloc o2).drew⟩
        refine AnyL.two (i := 3) (j := 8) { dst := some 31, op := .buildSlice 25 1 #[(0, .tmp 30)], type := 25, pos := "value.go:118", after := #[{ on := 2, ground := .data }], guard := none } { dst := some 36, op := .buildSlice 22 1 #[(0, .tmp 35)], type := 22, pos := "value.go:118", after := #[{ on := 7, ground := .data }], guard := none } (by kernel_rfl) rfl rfl hC (fun K hK => ?_) (fun K hK => ?_)
        ·
          go_simp
          refine hK.out _ _ (Til.mk (OBX _)) (fun hC hS => ?_)
          clear hK K
          refine AnyL.two (i := 4) (j := 8) { dst := some 32, op := .call { callee := .builtin .append, args := #[.tmp 29, .tmp 31], argTypes := #[25, 25] }, type := 25, pos := "value.go:118", after := #[{ on := 1, ground := .data }, { on := 3, ground := .data }], guard := none } { dst := some 36, op := .buildSlice 22 1 #[(0, .tmp 35)], type := 22, pos := "value.go:118", after := #[{ on := 7, ground := .data }], guard := none } (by kernel_rfl) rfl rfl hC (fun K hK => ?_) (fun K hK => ?_)
          ·
            refine step_append_lies _ (by rfl) (.tmp 29) (.tmp 31) 25 (by rfl) w1.heap.size 9 is (.string ⟨#[]⟩) 1 16 Tryd.underlying25 GI.out GZ0.out GZ1.out GZ2.out rfl (by decide) (.slice A4 k n4) k _ (by rfl) (own_old R0.out.keys (HO.out.trans (by repeat (first | exact Old.refl _ | apply Old.drew | apply Old.drewN | apply Old.alloc)))) _ 1 1 [.string s] (by rfl) rfl (news_blk (cs := #[.string s]) (Blk.drew (Blk.new_ (size1 _ _) _ _))) (one_one rfl) (by decide) (by unfold maxLen; omega) (by omega) (by have := R0.out.size; have := HO.out.size; simp; omega) _ rfl ?_
            intro g4 c4 w3 hown1 hg1 hat1 hlt1
            have st := R0.out.step1 HO.out (by repeat (first | exact Old.refl _ | apply Old.drew | apply Old.drewN | apply Old.alloc)) hg1
            have b7 := R0.out.side hg1 (b := w2.heap.size) (cs := #[.int .i64 kd, .int .i64 hf, .string tx, .slice B1 q1 p1, .slice B2 q2 p2, .slice B3 q3 p3]) (t := 27) (OBX _).2 (by have := HO.out.size; omega)
            have hl3 : w.heap.size + 1 < w3.heap.size := st.2.lt
            have hl7 : w2.heap.size < w3.heap.size := b7.lt
            have ROW5 := Lib.hid st.1
            have OUT3 := Lib.hid st.2
            have B7 := Lib.hid b7
            rw [HSS.out] at hown1
            have HOWN1 := Lib.hid hown1
            have HG1 := Lib.hid hg1
            have HAT1 := Lib.hid hat1
            have hsz3 := hg1.size
            simp at hsz3
            clear hown1 hg1 hat1 st b7
            refine hK.out _ _ (Til.mk ⟨OUT3.out, B7.out⟩) (fun hC hS => ?_)
            clear hK K
            simp only [Act.put, List.setIfInBounds_toArray, List.set_cons_zero, List.set_cons_succ]
            refine AnyL.take (i := 10) (v := .pointer (some ⟨w.heap.size + 1, 4, none⟩)) (some 38) (fun _ => True) rfl (by kernel_rfl) (by kernel_rfl) (by kernel_rfl) (fun _ _ _ h => h) (fun _ _ _ _ _ => trivial) (fun l w' => Til.set (by decide) l w') (fun _ ho => by cases ho; exact Or.inl ⟨by rfl, fun w' _ => by go_simp⟩) hC hS (fun hC hS => ?_)
            simp only [Act.put, List.setIfInBounds_toArray, List.set_cons_zero, List.set_cons_succ]
            refine AnyL.one (i := 8) { dst := some 36, op := .buildSlice 22 1 #[(0, .tmp 35)], type := 22, pos := "value.go:118", after := #[{ on := 7, ground := .data }], guard := none } (by kernel_rfl) rfl hC (fun K hK => ?_)
            go_simp
            refine hK.out _ _ (Til.mk ⟨OUT3.out.alloc _, B7.out.alloc _⟩) (fun hC hS => ?_)
            clear hK K
            refine AnyL.one (i := 9) { dst := some 37, op := .call { callee := .builtin .append, args := #[.tmp 34, .tmp 36], argTypes := #[22, 22] }, type := 22, pos := "value.go:118", after := #[{ on := 6, ground := .data }, { on := 8, ground := .data }, { on := 4, ground := .chain }], guard := none } (by kernel_rfl) rfl hC (fun K hK => ?_)
            refine step_append_lies _ (by rfl) (.tmp 34) (.tmp 36) 22 (by rfl) w1.heap.size 27 iv _ 6 104 Tryd.underlying22 HI.out HZ0.out HZ1.out HZ2.out rfl (by decide) (.slice A5 k n5) k zs (by rfl) (own_old ROW5.out (by repeat (first | exact Old.refl _ | apply Old.drew | apply Old.drewN | apply Old.alloc))) _ 1 1 [.int .i64 kd, .int .i64 hf, .string tx, .slice B1 q1 p1, .slice B2 q2 p2, .slice B3 q3 p3] (by rfl) rfl (news_blk (cs := #[.int .i64 kd, .int .i64 hf, .string tx, .slice B1 q1 p1, .slice B2 q2 p2, .slice B3 q3 p3]) (Blk.new_ rfl _ _)) (one_six HV.out) (by decide) (by unfold maxLen; omega) (by omega) (by have := R0.out.size; have := HO.out.size; simp; omega) _ rfl ?_
            intro g5 c5 w4 hown2 hg2 hat2 hlt2
            have bo := R0.out.side5 hg2 (OUT3.out.old (by repeat (first | exact Old.refl _ | apply Old.drew | apply Old.drewN | apply Old.alloc))) (.inr (by have := R0.out.base; omega))
            have q4 : w4.cell? ⟨w.heap.size + 1, 4, none⟩ = some (.slice A4 k n4) := bo.cell 4
            have q5 : w4.cell? ⟨w.heap.size + 1, 5, none⟩ = some (.slice A5 k n5) := bo.cell 5
            have e4 : w4.frozen? ⟨w.heap.size + 1, 4, none⟩ = false := bo.frozen 4
            have e5 : w4.frozen? ⟨w.heap.size + 1, 5, none⟩ = false := bo.frozen 5
            have hl4 : w.heap.size + 1 < w4.heap.size := bo.lt
            have HP := Lib.hid (R0.out.put hlt HO.out HV.out (by repeat (first | exact Old.refl _ | apply Old.drew | apply Old.drewN | apply Old.alloc)) HOWN1.out HG1.out HAT1.out (by first | omega | (simp; omega)) (by repeat (first | exact Old.refl _ | apply Old.drew | apply Old.drewN | apply Old.alloc)) hown2 hg2 hat2 (by first | omega | (simp; omega)))
            clear hown2 hg2 hat2 bo
            refine hK.out _ _ (Til.late (by rfl)) (fun hC hS => ?_)
            clear hK K
            simp only [Act.put, List.setIfInBounds_toArray, List.set_cons_zero, List.set_cons_succ]
            refine AnyL.one (i := 11) { dst := none, op := .store 25 (.tmp 38) (.tmp 32), type := 0, pos := "value.go:118", after := #[{ on := 10, ground := .data }, { on := 4, ground := .data }, { on := 9, ground := .chain }, { on := 0, ground := .phase }, { on := 1, ground := .phase }, { on := 2, ground := .phase }, { on := 3, ground := .phase }, { on := 4, ground := .phase }, { on := 5, ground := .phase }, { on := 6, ground := .phase }, { on := 7, ground := .textOnly .lateStores }, { on := 8, ground := .textOnly .lateStores }, { on := 9, ground := .textOnly .lateStoresUnsure }], guard := none } (by kernel_rfl) rfl hC (fun K hK => ?_)
            go_simp
            refine hK.out _ _ (Til.late (by rfl)) (fun hC hS => ?_)
            clear hK K
            refine AnyL.take (i := 12) (v := .pointer (some ⟨w.heap.size + 1, 5, none⟩)) (some 39) (fun _ => True) rfl (by kernel_rfl) (by kernel_rfl) (by kernel_rfl) (fun _ _ _ h => h) (fun _ _ _ _ _ => trivial) (fun l w' => Til.set (by decide) l w') (fun _ ho => by cases ho; exact Or.inl ⟨by rfl, fun w' _ => by go_simp⟩) hC hS (fun hC hS => ?_)
            simp only [Act.put, List.setIfInBounds_toArray, List.set_cons_zero, List.set_cons_succ]
            refine AnyL.one (i := 13) { dst := none, op := .store 22 (.tmp 39) (.tmp 37), type := 0, pos := "value.go:118", after := #[{ on := 12, ground := .data }, { on := 9, ground := .data }, { on := 11, ground := .chain }, { on := 0, ground := .phase }, { on := 1, ground := .phase }, { on := 2, ground := .phase }, { on := 3, ground := .phase }, { on := 4, ground := .phase }, { on := 5, ground := .phase }, { on := 6, ground := .phase }, { on := 7, ground := .phase }, { on := 8, ground := .phase }, { on := 9, ground := .phase }, { on := 10, ground := .phase }, { on := 11, ground := .phase }], guard := none } (by kernel_rfl) rfl hC (fun K hK => ?_)
            go_simp
            refine hK.out _ _ (Til.late (by rfl)) (fun hC hS => ?_)
            clear hK K
            refine AnyL.done (by kernel_rfl) ?_ _
            clear hC hS OBX OBY
            go_wp2
            go_roundg (gk - 1)
            case measure => omega
            case rel => exact ⟨k + 1, _, _, _, by omega, by go_num, HP.out⟩
          ·
            go_simp
            refine hK.out _ _ (Til.mk (OBY _ _)) (fun hC hS => ?_)
            clear hK K
            refine AnyL.one (i := 4) { dst := some 32, op := .call { callee := .builtin .append, args := #[.tmp 29, .tmp 31], argTypes := #[25, 25] }, type := 25, pos := "value.go:118", after := #[{ on := 1, ground := .data }, { on := 3, ground := .data }], guard := none } (by kernel_rfl) rfl hC (fun K hK => ?_)
            refine step_append_lies _ (by rfl) (.tmp 29) (.tmp 31) 25 (by rfl) w1.heap.size 9 is (.string ⟨#[]⟩) 1 16 Tryd.underlying25 GI.out GZ0.out GZ1.out GZ2.out rfl (by decide) (.slice A4 k n4) k _ (by rfl) (own_old R0.out.keys (HO.out.trans (by repeat (first | exact Old.refl _ | apply Old.drew | apply Old.drewN | apply Old.alloc)))) _ 1 1 [.string s] (by rfl) rfl (news_blk (cs := #[.string s]) (Blk.drew (Blk.alloc (Blk.new_ (size1 _ _) _ _) _))) (one_one rfl) (by decide) (by unfold maxLen; omega) (by omega) (by have := R0.out.size; have := HO.out.size; simp; omega) _ rfl ?_
            intro g4 c4 w3 hown1 hg1 hat1 hlt1
            have st := R0.out.step1 HO.out (by repeat (first | exact Old.refl _ | apply Old.drew | apply Old.drewN | apply Old.alloc)) hg1
            have b7 := R0.out.side hg1 (b := w2.heap.size) (cs := #[.int .i64 kd, .int .i64 hf, .string tx, .slice B1 q1 p1, .slice B2 q2 p2, .slice B3 q3 p3]) (t := 27) (OBY _ _).2 (by have := HO.out.size; omega)
            have HBV := Lib.hid (R0.out.side hg1 (cs := #[.int .i64 kd, .int .i64 hf, .string tx, .slice B1 q1 p1, .slice B2 q2 p2, .slice B3 q3 p3]) (t := 27) (Blk.drew (Blk.new_ (size2 _ _ _) _ _)) (by have := HO.out.size; omega))
            have hl3 : w.heap.size + 1 < w3.heap.size := st.2.lt
            have hl7 : w2.heap.size < w3.heap.size := b7.lt
            have ROW5 := Lib.hid st.1
            have OUT3 := Lib.hid st.2
            have B7 := Lib.hid b7
            rw [HSS.out] at hown1
            have HOWN1 := Lib.hid hown1
            have HG1 := Lib.hid hg1
            have HAT1 := Lib.hid hat1
            have hsz3 := hg1.size
            simp at hsz3
            clear hown1 hg1 hat1 st b7
            refine hK.out _ _ (Til.mk ⟨OUT3.out, B7.out⟩) (fun hC hS => ?_)
            clear hK K
            simp only [Act.put, List.setIfInBounds_toArray, List.set_cons_zero, List.set_cons_succ]
            refine AnyL.take (i := 10) (v := .pointer (some ⟨w.heap.size + 1, 4, none⟩)) (some 38) (fun _ => True) rfl (by kernel_rfl) (by kernel_rfl) (by kernel_rfl) (fun _ _ _ h => h) (fun _ _ _ _ _ => trivial) (fun l w' => Til.set (by decide) l w') (fun _ ho => by cases ho; exact Or.inl ⟨by rfl, fun w' _ => by go_simp⟩) hC hS (fun hC hS => ?_)
            simp only [Act.put, List.setIfInBounds_toArray, List.set_cons_zero, List.set_cons_succ]
            refine AnyL.one (i := 9) { dst := some 37, op := .call { callee := .builtin .append, args := #[.tmp 34, .tmp 36], argTypes := #[22, 22] }, type := 22, pos := "value.go:118", after := #[{ on := 6, ground := .data }, { on := 8, ground := .data }, { on := 4, ground := .chain }], guard := none } (by kernel_rfl) rfl hC (fun K hK => ?_)
            refine step_append_lies _ (by rfl) (.tmp 34) (.tmp 36) 22 (by rfl) w1.heap.size 27 iv _ 6 104 Tryd.underlying22 HI.out HZ0.out HZ1.out HZ2.out rfl (by decide) (.slice A5 k n5) k zs (by rfl) (own_old ROW5.out (by repeat (first | exact Old.refl _ | apply Old.drew | apply Old.drewN | apply Old.alloc))) _ 1 1 [.int .i64 kd, .int .i64 hf, .string tx, .slice B1 q1 p1, .slice B2 q2 p2, .slice B3 q3 p3] (by rfl) rfl (news_blk (cs := #[.int .i64 kd, .int .i64 hf, .string tx, .slice B1 q1 p1, .slice B2 q2 p2, .slice B3 q3 p3]) HBV.out) (one_six HV.out) (by decide) (by unfold maxLen; omega) (by omega) (by have := R0.out.size; have := HO.out.size; simp; omega) _ rfl ?_
            intro g5 c5 w4 hown2 hg2 hat2 hlt2
            have bo := R0.out.side5 hg2 (OUT3.out.old (by repeat (first | exact Old.refl _ | apply Old.drew | apply Old.drewN | apply Old.alloc))) (.inr (by have := R0.out.base; omega))
            have q4 : w4.cell? ⟨w.heap.size + 1, 4, none⟩ = some (.slice A4 k n4) := bo.cell 4
            have q5 : w4.cell? ⟨w.heap.size + 1, 5, none⟩ = some (.slice A5 k n5) := bo.cell 5
            have e4 : w4.frozen? ⟨w.heap.size + 1, 4, none⟩ = false := bo.frozen 4
            have e5 : w4.frozen? ⟨w.heap.size + 1, 5, none⟩ = false := bo.frozen 5
            have hl4 : w.heap.size + 1 < w4.heap.size := bo.lt
            have HP := Lib.hid (R0.out.put hlt HO.out HV.out (by repeat (first | exact Old.refl _ | apply Old.drew | apply Old.drewN | apply Old.alloc)) HOWN1.out HG1.out HAT1.out (by first | omega | (simp; omega)) (by repeat (first | exact Old.refl _ | apply Old.drew | apply Old.drewN | apply Old.alloc)) hown2 hg2 hat2 (by first | omega | (simp; omega)))
            clear hown2 hg2 hat2 bo
            refine hK.out _ _ (Til.late (by rfl)) (fun hC hS => ?_)
            clear hK K
            simp only [Act.put, List.setIfInBounds_toArray, List.set_cons_zero, List.set_cons_succ]
            refine AnyL.one (i := 11) { dst := none, op := .store 25 (.tmp 38) (.tmp 32), type := 0, pos := "value.go:118", after := #[{ on := 10, ground := .data }, { on := 4, ground := .data }, { on := 9, ground := .chain }, { on := 0, ground := .phase }, { on := 1, ground := .phase }, { on := 2, ground := .phase }, { on := 3, ground := .phase }, { on := 4, ground := .phase }, { on := 5, ground := .phase }, { on := 6, ground := .phase }, { on := 7, ground := .textOnly .lateStores }, { on := 8, ground := .textOnly .lateStores }, { on := 9, ground := .textOnly .lateStoresUnsure }], guard := none } (by kernel_rfl) rfl hC (fun K hK => ?_)
            go_simp
            refine hK.out _ _ (Til.late (by rfl)) (fun hC hS => ?_)
            clear hK K
            refine AnyL.take (i := 12) (v := .pointer (some ⟨w.heap.size + 1, 5, none⟩)) (some 39) (fun _ => True) rfl (by kernel_rfl) (by kernel_rfl) (by kernel_rfl) (fun _ _ _ h => h) (fun _ _ _ _ _ => trivial) (fun l w' => Til.set (by decide) l w') (fun _ ho => by cases ho; exact Or.inl ⟨by rfl, fun w' _ => by go_simp⟩) hC hS (fun hC hS => ?_)
            simp only [Act.put, List.setIfInBounds_toArray, List.set_cons_zero, List.set_cons_succ]
            refine AnyL.one (i := 13) { dst := none, op := .store 22 (.tmp 39) (.tmp 37), type := 0, pos := "value.go:118", after := #[{ on := 12, ground := .data }, { on := 9, ground := .data }, { on := 11, ground := .chain }, { on := 0, ground := .phase }, { on := 1, ground := .phase }, { on := 2, ground := .phase }, { on := 3, ground := .phase }, { on := 4, ground := .phase }, { on := 5, ground := .phase }, { on := 6, ground := .phase }, { on := 7, ground := .phase }, { on := 8, ground := .phase }, { on := 9, ground := .phase }, { on := 10, ground := .phase }, { on := 11, ground := .phase }], guard := none } (by kernel_rfl) rfl hC (fun K hK => ?_)
            go_simp
            refine hK.out _ _ (Til.late (by rfl)) (fun hC hS => ?_)
            clear hK K
            refine AnyL.done (by kernel_rfl) ?_ _
            clear hC hS OBX OBY
            go_wp2
            go_roundg (gk - 1)
            case measure => omega
            case rel => exact ⟨k + 1, _, _, _, by omega, by go_num, HP.out⟩
        ·
          go_simp
          refine hK.out _ _ (Til.mk (OBX _)) (fun hC hS => ?_)
          clear hK K
          refine AnyL.one (i := 3) { dst := some 31, op := .buildSlice 25 1 #[(0, .tmp 30)], type := 25, pos := "value.go:118", after := #[{ on := 2, ground := .data }], guard := none } (by kernel_rfl) rfl hC (fun K hK => ?_)
          go_simp
          refine hK.out _ _ (Til.mk (OBY _ _)) (fun hC hS => ?_)
          clear hK K
          refine AnyL.one (i := 4) { dst := some 32, op := .call { callee := .builtin .append, args := #[.tmp 29, .tmp 31], argTypes := #[25, 25] }, type := 25, pos := "value.go:118", after := #[{ on := 1, ground := .data }, { on := 3, ground := .data }], guard := none } (by kernel_rfl) rfl hC (fun K hK => ?_)
          refine step_append_lies _ (by rfl) (.tmp 29) (.tmp 31) 25 (by rfl) w1.heap.size 9 is (.string ⟨#[]⟩) 1 16 Tryd.underlying25 GI.out GZ0.out GZ1.out GZ2.out rfl (by decide) (.slice A4 k n4) k _ (by rfl) (own_old R0.out.keys (HO.out.trans (by repeat (first | exact Old.refl _ | apply Old.drew | apply Old.drewN | apply Old.alloc)))) _ 1 1 [.string s] (by rfl) rfl (news_blk (cs := #[.string s]) (Blk.drew (Blk.new_ (size2 _ _ _) _ _))) (one_one rfl) (by decide) (by unfold maxLen; omega) (by omega) (by have := R0.out.size; have := HO.out.size; simp; omega) _ rfl ?_
          intro g4 c4 w3 hown1 hg1 hat1 hlt1
          have st := R0.out.step1 HO.out (by repeat (first | exact Old.refl _ | apply Old.drew | apply Old.drewN | apply Old.alloc)) hg1
          have b7 := R0.out.side hg1 (b := w2.heap.size) (cs := #[.int .i64 kd, .int .i64 hf, .string tx, .slice B1 q1 p1, .slice B2 q2 p2, .slice B3 q3 p3]) (t := 27) (OBY _ _).2 (by have := HO.out.size; omega)
          have HBV := Lib.hid (R0.out.side hg1 (cs := #[.int .i64 kd, .int .i64 hf, .string tx, .slice B1 q1 p1, .slice B2 q2 p2, .slice B3 q3 p3]) (t := 27) (Blk.drew (Blk.alloc (Blk.new_ (size1 _ _) _ _) _)) (by have := HO.out.size; omega))
          have hl3 : w.heap.size + 1 < w3.heap.size := st.2.lt
          have hl7 : w2.heap.size < w3.heap.size := b7.lt
          have ROW5 := Lib.hid st.1
          have OUT3 := Lib.hid st.2
          have B7 := Lib.hid b7
          rw [HSS.out] at hown1
          have HOWN1 := Lib.hid hown1
          have HG1 := Lib.hid hg1
          have HAT1 := Lib.hid hat1
          have hsz3 := hg1.size
          simp at hsz3
          clear hown1 hg1 hat1 st b7
          refine hK.out _ _ (Til.mk ⟨OUT3.out, B7.out⟩) (fun hC hS => ?_)
          clear hK K
          simp only [Act.put, List.setIfInBounds_toArray, List.set_cons_zero, List.set_cons_succ]
          refine AnyL.take (i := 10) (v := .pointer (some ⟨w.heap.size + 1, 4, none⟩)) (some 38) (fun _ => True) rfl (by kernel_rfl) (by kernel_rfl) (by kernel_rfl) (fun _ _ _ h => h) (fun _ _ _ _ _ => trivial) (fun l w' => Til.set (by decide) l w') (fun _ ho => by cases ho; exact Or.inl ⟨by rfl, fun w' _ => by go_simp⟩) hC hS (fun hC hS => ?_)
          simp only [Act.put, List.setIfInBounds_toArray, List.set_cons_zero, List.set_cons_succ]
          refine AnyL.one (i := 9) { dst := some 37, op := .call { callee := .builtin .append, args := #[.tmp 34, .tmp 36], argTypes := #[22, 22] }, type := 22, pos := "value.go:118", after := #[{ on := 6, ground := .data }, { on := 8, ground := .data }, { on := 4, ground := .chain }], guard := none } (by kernel_rfl) rfl hC (fun K hK => ?_)
          refine step_append_lies _ (by rfl) (.tmp 34) (.tmp 36) 22 (by rfl) w1.heap.size 27 iv _ 6 104 Tryd.underlying22 HI.out HZ0.out HZ1.out HZ2.out rfl (by decide) (.slice A5 k n5) k zs (by rfl) (own_old ROW5.out (by repeat (first | exact Old.refl _ | apply Old.drew | apply Old.drewN | apply Old.alloc))) _ 1 1 [.int .i64 kd, .int .i64 hf, .string tx, .slice B1 q1 p1, .slice B2 q2 p2, .slice B3 q3 p3] (by rfl) rfl (news_blk (cs := #[.int .i64 kd, .int .i64 hf, .string tx, .slice B1 q1 p1, .slice B2 q2 p2, .slice B3 q3 p3]) HBV.out) (one_six HV.out) (by decide) (by unfold maxLen; omega) (by omega) (by have := R0.out.size; have := HO.out.size; simp; omega) _ rfl ?_
          intro g5 c5 w4 hown2 hg2 hat2 hlt2
          have bo := R0.out.side5 hg2 (OUT3.out.old (by repeat (first | exact Old.refl _ | apply Old.drew | apply Old.drewN | apply Old.alloc))) (.inr (by have := R0.out.base; omega))
          have q4 : w4.cell? ⟨w.heap.size + 1, 4, none⟩ = some (.slice A4 k n4) := bo.cell 4
          have q5 : w4.cell? ⟨w.heap.size + 1, 5, none⟩ = some (.slice A5 k n5) := bo.cell 5
          have e4 : w4.frozen? ⟨w.heap.size + 1, 4, none⟩ = false := bo.frozen 4
          have e5 : w4.frozen? ⟨w.heap.size + 1, 5, none⟩ = false := bo.frozen 5
          have hl4 : w.heap.size + 1 < w4.heap.size := bo.lt
          have HP := Lib.hid (R0.out.put hlt HO.out HV.out (by repeat (first | exact Old.refl _ | apply Old.drew | apply Old.drewN | apply Old.alloc)) HOWN1.out HG1.out HAT1.out (by first | omega | (simp; omega)) (by repeat (first | exact Old.refl _ | apply Old.drew | apply Old.drewN | apply Old.alloc)) hown2 hg2 hat2 (by first | omega | (simp; omega)))
          clear hown2 hg2 hat2 bo
          refine hK.out _ _ (Til.late (by rfl)) (fun hC hS => ?_)
          clear hK K
          simp only [Act.put, List.setIfInBounds_toArray, List.set_cons_zero, List.set_cons_succ]
          refine AnyL.one (i := 11) { dst := none, op := .store 25 (.tmp 38) (.tmp 32), type := 0, pos := "value.go:118", after := #[{ on := 10, ground := .data }, { on := 4, ground := .data }, { on := 9, ground := .chain }, { on := 0, ground := .phase }, { on := 1, ground := .phase }, { on := 2, ground := .phase }, { on := 3, ground := .phase }, { on := 4, ground := .phase }, { on := 5, ground := .phase }, { on := 6, ground := .phase }, { on := 7, ground := .textOnly .lateStores }, { on := 8, ground := .textOnly .lateStores }, { on := 9, ground := .textOnly .lateStoresUnsure }], guard := none } (by kernel_rfl) rfl hC (fun K hK => ?_)
          go_simp
          refine hK.out _ _ (Til.late (by rfl)) (fun hC hS => ?_)
          clear hK K
          refine AnyL.take (i := 12) (v := .pointer (some ⟨w.heap.size + 1, 5, none⟩)) (some 39) (fun _ => True) rfl (by kernel_rfl) (by kernel_rfl) (by kernel_rfl) (fun _ _ _ h => h) (fun _ _ _ _ _ => trivial) (fun l w' => Til.set (by decide) l w') (fun _ ho => by cases ho; exact Or.inl ⟨by rfl, fun w' _ => by go_simp⟩) hC hS (fun hC hS => ?_)
          simp only [Act.put, List.setIfInBounds_toArray, List.set_cons_zero, List.set_cons_succ]
          refine AnyL.one (i := 13) { dst := none, op := .store 22 (.tmp 39) (.tmp 37), type := 0, pos := "value.go:118", after := #[{ on := 12, ground := .data }, { on := 9, ground := .data }, { on := 11, ground := .chain }, { on := 0, ground := .phase }, { on := 1, ground := .phase }, { on := 2, ground := .phase }, { on := 3, ground := .phase }, { on := 4, ground := .phase }, { on := 5, ground := .phase }, { on := 6, ground := .phase }, { on := 7, ground := .phase }, { on := 8, ground := .phase }, { on := 9, ground := .phase }, { on := 10, ground := .phase }, { on := 11, ground := .phase }], guard := none } (by kernel_rfl) rfl hC (fun K hK => ?_)
          go_simp
          refine hK.out _ _ (Til.late (by rfl)) (fun hC hS => ?_)
          clear hK K
          refine AnyL.done (by kernel_rfl) ?_ _
          clear hC hS OBX OBY
          go_wp2
          go_roundg (gk - 1)
          case measure => omega
          case rel => exact ⟨k + 1, _, _, _, by omega, by go_num, HP.out⟩
    · obtain rfl : k = ks.length := by omega
      have r0 : wr.cell? ⟨w.heap.size, 0, none⟩ = _ := R.res.cell 0
      have s0 : wr.frozen? ⟨w.heap.size, 0, none⟩ = false := R.res.frozen 0
      have r1 : wr.cell? ⟨w.heap.size, 1, none⟩ = _ := R.res.cell 1
      have s1 : wr.frozen? ⟨w.heap.size, 1, none⟩ = false := R.res.frozen 1
      have r2 : wr.cell? ⟨w.heap.size, 2, none⟩ = _ := R.res.cell 2
      have s2 : wr.frozen? ⟨w.heap.size, 2, none⟩ = false := R.res.frozen 2
      have r3 : wr.cell? ⟨w.heap.size, 3, none⟩ = _ := R.res.cell 3
      have s3 : wr.frozen? ⟨w.heap.size, 3, none⟩ = false := R.res.frozen 3
      have r4 : wr.cell? ⟨w.heap.size, 4, none⟩ = _ := R.res.cell 4
      have s4 : wr.frozen? ⟨w.heap.size, 4, none⟩ = false := R.res.frozen 4
      have r5 : wr.cell? ⟨w.heap.size, 5, none⟩ = _ := R.res.cell 5
      have s5 : wr.frozen? ⟨w.heap.size, 5, none⟩ = false := R.res.frozen 5
      have hlr := R.res.lt
      have y0 : wr.cell? ⟨w.heap.size + 1, 0, none⟩ = _ := R.out.cell 0
      have y1 : wr.cell? ⟨w.heap.size + 1, 1, none⟩ = _ := R.out.cell 1
      have y2 : wr.cell? ⟨w.heap.size + 1, 2, none⟩ = _ := R.out.cell 2
      have y3 : wr.cell? ⟨w.heap.size + 1, 3, none⟩ = _ := R.out.cell 3
      have y4 : wr.cell? ⟨w.heap.size + 1, 4, none⟩ = _ := R.out.cell 4
      have y5 : wr.cell? ⟨w.heap.size + 1, 5, none⟩ = _ := R.out.cell 5
      have R1 := Lib.hid R
      clear R
      go_wp2
      refine bodyPost_ret (v := .tuple #[.agg #[.int .i64 6, .int .i64 0, .string ⟨#[]⟩, .slice none 0 0, .slice A4 ks.length n4, .slice A5 ks.length n5], .bool true]) (by simp [results, Tryd.results26, go_sem, r0, r1, r2, r3, r4, r5]) rfl ?_
      have hc := six_stores wr w.heap.size (.int .i64 6) (.int .i64 0) (.string ⟨#[]⟩) (.slice none 0 0) (.slice A4 ks.length n4) (.slice A5 ks.length n5)
      have hbase := R1.out.base
      have hm : ∀ b : Nat, w1.heap.size ≤ b → b ≠ w.heap.size := fun b hb => by omega
      have hl2 : ∀ b : Nat, w1.heap.size ≤ b → w.heap.size ≤ b := fun b hb => by omega
      obtain ⟨C, cs, cr⟩ := R1.out.done HKV.out
      have hkc := key_cells_at R1.out.keys
      exact ⟨_, _, rfl, (hkc.chg (Chg.mono hc fun b _ hb => hm b hb)).mono fun b hb _ => hl2 b hb, ⟨C, (cs.chg (Chg.mono hc fun b _ hb => hm b hb)).mono fun b hb _ => hl2 b hb, fun i hi => ((cr i hi).chg (Chg.mono hc fun b _ hb => hm b hb)).mono fun b hb _ => hl2 b hb⟩, Old.chg_ R1.out.old hc fun b hb => Nat.ne_of_lt hb⟩
end Go.Proofs.YtehfmaiogbehgaaDoor
