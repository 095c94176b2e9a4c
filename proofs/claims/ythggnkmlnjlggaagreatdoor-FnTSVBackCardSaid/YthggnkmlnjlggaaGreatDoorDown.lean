/-
  A decimal cut to n digits, from below: the walk of down.
  Conditions: none.
-/
import Derived.Test.YthggnkmlnjlggaaGreatDoorByteJoin
namespace Go.Proofs.YthggnkmlnjlggaaGreatDoor
open Go.RowKit
attribute [local go_sem ↓] Go.wp_at_zero Go.wp_at_succ

/-- A copy of a decimal, with a row of its own. -/
structure CopyOk (w wz : World) (gb : Nat) (v : Value) (ds : List Nat) (dp : Int) : Prop where
  blk : Blk wz gb #[v, .int .i64 dp] 201
  row : wz.ownsRow w.heap.size 5 1 v ds.length (dcells ds)
  ne : ∀ b, v.ownBlock = some b → b ≠ gb
  new_ : w.heap.size ≤ gb
  old : Old w wz
theorem CopyOk.one {w W w3 : World} {gn cap m : Nat} {ds : List Nat} {dp : Int} (ho : Old w W) (hm : m = ds.length) (hown : w3.ownsRow w.heap.size 5 1 (.slice (some ⟨gn, 0, none⟩) (0 + m) cap) (0 + m) ([] ++ dcells ds)) (hg : (W.alloc (.cells #[] 5)).grownBy w3 (some W.heap.size)) :
    CopyOk w (w3.alloc (.cells #[.slice (some ⟨gn, 0, none⟩) (0 + m) cap, .int .i64 dp] 201)) w3.heap.size (.slice (some ⟨gn, 0, none⟩) (0 + m) cap) ds dp := by
  have h1 := ho.size
  have h2 := hg.size
  simp at h2
  refine ⟨Blk.new _ _ _, ?_, fun b hb => ?_, by omega, ((ho.alloc _).grown hg fun k hk => by cases hk; exact h1).alloc _⟩
  · have := own_old hown ((Old.refl w3).alloc (.cells #[.slice (some ⟨gn, 0, none⟩) (0 + m) cap, .int .i64 dp] 201))
    subst hm
    simpa using this
  · have := own_lt hown hb
    omega
theorem CopyOk.two {w W W2 w3 : World} {gn cap m gb : Nat} {ds : List Nat} {dp : Int} {r : Option Nat} (ho : Old w W) (ho2 : Old W W2) (hgb : W.heap.size ≤ gb) (hb : Blk W2 gb #[.slice none 0 0, .int .i64 0] 201) (hm : m = ds.length) (hown : w3.ownsRow w.heap.size 5 1 (.slice (some ⟨gn, 0, none⟩) (0 + m) cap) (0 + m) ([] ++ dcells ds)) (hg : W2.grownBy w3 r) (hr : ∀ k, r = some k → W.heap.size ≤ k ∧ k ≠ gb) :
    CopyOk w ((w3.setCell ⟨gb, 0, none⟩ (.slice (some ⟨gn, 0, none⟩) (0 + m) cap)).setCell ⟨gb, 1, none⟩ (.int .i64 dp)) gb (.slice (some ⟨gn, 0, none⟩) (0 + m) cap) ds dp := by
  have h1 := ho.size
  have hb3 : Blk w3 gb #[.slice none 0 0, .int .i64 0] 201 := hb.chg (Chg.grown (ok := fun b => some b ≠ r) (Chg.refl _ _) hg fun _ _ ho => ho) fun e => (hr gb e.symm).2 rfl
  have hne : ∀ b, (Value.slice (some ⟨gn, 0, none⟩) (0 + m) cap).ownBlock = some b → b ≠ gb := fun b hb' e => by
    subst e
    exact own_ne hown hb3 (by decide) hb'.symm
  refine ⟨(hb3.set 0 _).set 1 _, ?_, hne, by omega, (((ho.trans ho2).grown hg fun k hk => by have := (hr k hk).1; omega).setCell (by simp; omega) _).setCell (by simp; omega) _⟩
  have := own_chg hown (((Chg.refl (fun b => b ≠ gb) w3).setCell ⟨gb, 0, none⟩ (.slice (some ⟨gn, 0, none⟩) (0 + m) cap) (fun _ h => h rfl)).setCell ⟨gb, 1, none⟩ (.int .i64 dp) (fun _ h => h rfl)) hne
  subst hm
  simpa using this
/-- Two cells are as they were. -/
def TwoC (a b : Addr) (x y : Value) (w : World) : Prop := w.cell? a = some x ∧ w.cell? b = some y
theorem TwoC.old {a b : Addr} {x y : Value} {w w' : World} (h : TwoC a b x y w) (ho : Old w w') : TwoC a b x y w' := ⟨ho.cell h.1, ho.cell h.2⟩
-- DOWN
theorem CopyOk.dec {w wz : World} {gb : Nat} {v : Value} {ds : List Nat} {dp : Int} (h : CopyOk w wz gb v ds dp) : DecAt wz gb v ds dp := ⟨h.blk, SliceV.of_own h.row (fun k hk => h.ne k hk) fun i hi => ⟨rfl, fun j hj => by
  obtain rfl : j = 0 := by omega
  simp [dcells, List.getD_eq_getElem?_getD, List.getElem?_eq_getElem hi]⟩⟩
/-- What is cut off from below. -/
def DownAns (w : World) (ds : List Nat) (dp : Int) (n : Nat) (e : Ending) (w' : World) : Prop :=
  ∃ gb v' ds' dp', e = .returned (.pointer (some ⟨gb, 0, none⟩)) ∧ DecAt w' gb v' ds' dp' ∧ (n = 0 ∧ ds' = [] ∨ 0 < n ∧ Canon ds' ∧ ds'.length ≤ n ∧ dp' = dp ∧ ∀ s : Nat, (n : Int) ≤ dp + s → sc s ds' dp = sc s (ds.take n) dp) ∧ Old w w'
theorem down_end {w wz w5 : World} {gb n j : Nat} {v v5 : Value} {ds : List Nat} {dp : Int} {e : Ending} (hc : Canon ds) (hn : n < ds.length) (h : CopyOk w wz gb v (ds.take n) dp) (he : e = .returned (.pointer (some ⟨gb, 0, none⟩))) (hj : j ≤ (ds.take n).length) (hz : ∀ i, j ≤ i → (ds.take n).getD i 0 = 0) (hl : 0 < j → (ds.take n).getD (j - 1) 0 ≠ 0)
    (hd : DecAt w5 gb v5 ((ds.take n).take j) (if j = 0 then 0 else dp)) (hc5 : Chg (fun b => b ≠ gb) wz w5) : DownAns w ds dp n e w5 := by
  have hlen : (ds.take n).length = n := by simp; omega
  have hold : Old w w5 := Old.chg_ h.old hc5 fun b hb => by have := h.new_; omega
  refine ⟨gb, v5, _, _, he, hd, ?_, hold⟩
  rcases Nat.eq_zero_or_pos n with rfl | h0
  · exact .inl ⟨rfl, by simp⟩
  · right
    have hh : (ds.take n).head? ≠ some 0 := by
      match ds, n, hc.ne, h0 with
      | a :: r, n + 1, _, _ => simpa using hc.head
    have hne : ds.take n ≠ [] := fun e => by rw [e] at hlen; simp at hlen; omega
    obtain ⟨hj0, hcan, hsc⟩ := trimmed (fun d hd => hc.lt d (List.mem_of_mem_take hd)) hh hne hj hz hl
    refine ⟨h0, hcan, by simp; omega, by rw [if_neg (by omega)], fun s hs => hsc s dp (by omega)⟩
set_option maxHeartbeats 8000000 in
set_option maxRecDepth 100000 in
theorem down_any (w : World) (g : Nat) (v : Value) (ds : List Nat) (dp : Int) (hc : Canon ds) (hl : ds.length ≤ 200) (n : Nat) (hn : n < ds.length) (h : DecAt w g v ds dp) :
    Calls Tryz.prog 153 #[.pointer (some ⟨g, 0, none⟩), .int .i64 (n : Nat)] w (DownAns w ds dp n) := by
  obtain ⟨A, c, rfl, hcap⟩ := h.row.len
  have x0 : w.cell? ⟨g, 0, none⟩ = some (.slice A ds.length c) := h.blk.cell 0
  have x1 : w.cell? ⟨g, 1, none⟩ = some (.int .i64 dp) := h.blk.cell 1
  have TAK := Lib.hid (show TakenB w.drew (.slice A n c) n (dcells (ds.take n)) by
    have := (DRow.take h.row n (by omega)).taken
    rw [List.length_take, Nat.min_eq_left (by omega)] at this
    exact this.old (Old.refl w).drew)
  have HC := Lib.hid hc
  obtain ⟨iv, hi, hz0, hz1, hz2⟩ := info_parts Tryz.infoByte
  have HI := Lib.hid hi
  have HZ0 := Lib.hid hz0
  have HZ1 := Lib.hid hz1
  have HZ2 := Lib.hid hz2
  clear hi hz0 hz1 hz2
  clear h hc
  go_enter Tryz.func153, Tryz.ntmps153
  go_upto_region 3 with (fail)
  have s1 : max ((n : Nat) : Int) 0 = (n : Nat) := by omega
  have s2 : ¬ ((c : Int) < (n : Nat)) := by omega
  have s3 : (0 : Int) ≤ (n : Nat) := by omega
  have s4 : (n : Int) ≤ (c : Nat) := by omega
  refine AnyL.region 16 (S := Til 15 (TwoC ⟨g, 0, none⟩ ⟨g, 1, none⟩ (.slice A ds.length c) (.int .i64 dp))) rfl (by kernel_rfl) (fun hC => ?_)
  have hS : Til 15 (TwoC ⟨g, 0, none⟩ ⟨g, 1, none⟩ (.slice A ds.length c) (.int .i64 dp)) (Array.replicate 16 false) w.drew := Til.mk ⟨x0, x1⟩
  refine AnyL.take (i := 1) (v := .pointer (some ⟨g, 0, none⟩)) (some 15) (fun _ => True) rfl (by kernel_rfl) (by kernel_rfl) (by kernel_rfl) (fun _ _ _ h => h) (fun _ _ _ _ _ => trivial) (fun l w' => Til.set (by decide) l w') (fun _ ho => by cases ho; exact Or.inl ⟨by rfl, fun w' _ => by go_simp⟩) hC hS (fun hC hS => ?_)
  simp only [Act.put, List.setIfInBounds_toArray, List.set_cons_zero, List.set_cons_succ]
  refine AnyL.take (i := 2) (v := .pointer (some ⟨g, 0, none⟩)) (some 16) (fun _ => True) rfl (by kernel_rfl) (by kernel_rfl) (by kernel_rfl) (fun _ _ _ h => h) (fun _ _ _ _ _ => trivial) (fun l w' => Til.set (by decide) l w') (fun _ ho => by cases ho; exact Or.inl ⟨by rfl, fun w' _ => by go_simp⟩) hC hS (fun hC hS => ?_)
  simp only [Act.put, List.setIfInBounds_toArray, List.set_cons_zero, List.set_cons_succ]
  refine AnyL.take (i := 3) (v := .pointer (some ⟨g, 0, none⟩)) (some 17) (fun _ => True) rfl (by kernel_rfl) (by kernel_rfl) (by kernel_rfl) (fun _ _ _ h => h) (fun _ _ _ _ _ => trivial) (fun l w' => Til.set (by decide) l w') (fun _ ho => by cases ho; exact Or.inl ⟨by rfl, fun w' _ => by go_simp⟩) hC hS (fun hC hS => ?_)
  simp only [Act.put, List.setIfInBounds_toArray, List.set_cons_zero, List.set_cons_succ]
  refine AnyL.take (i := 4) (v := .slice A ds.length c) (some 18) (TwoC ⟨g, 0, none⟩ ⟨g, 1, none⟩ (.slice A ds.length c) (.int .i64 dp)) rfl (by kernel_rfl) (by kernel_rfl) (by kernel_rfl) (fun _ _ _ h => h) (fun l w' hC hl hS => hS (hC.un (j := 15) (i := 13) (by kernel_rfl) (hC.un (j := 13) (i := 8) (by kernel_rfl) (hC.un (j := 8) (i := 7) (by kernel_rfl) (hC.un (j := 7) (i := 4) (by kernel_rfl) hl))))) (fun l w' => Til.set (by decide) l w') (fun _ ho => by cases ho; exact Or.inl ⟨by rfl, fun w' hB => by have h0 := hB.1; go_simp⟩) hC hS (fun hC hS => ?_)
  simp only [Act.put, List.setIfInBounds_toArray, List.set_cons_zero, List.set_cons_succ]
  refine AnyL.take (i := 5) (v := .int .i64 (n : Nat)) (some 19) (fun _ => True) rfl (by kernel_rfl) (by kernel_rfl) (by kernel_rfl) (fun _ _ _ h => h) (fun _ _ _ _ _ => trivial) (fun l w' => Til.set (by decide) l w') (fun _ ho => by cases ho; exact Or.inl ⟨by rfl, fun w' _ => by go_simp⟩) hC hS (fun hC hS => ?_)
  simp only [Act.put, List.setIfInBounds_toArray, List.set_cons_zero, List.set_cons_succ]
  refine AnyL.take (i := 6) (v := .int .i64 (n : Nat)) (some 20) (fun _ => True) rfl (by kernel_rfl) (by kernel_rfl) (by kernel_rfl) (fun _ _ _ h => h) (fun _ _ _ _ _ => trivial) (fun l w' => Til.set (by decide) l w') (fun _ ho => by cases ho; exact Or.inl ⟨by rfl, fun w' _ => by have hn0 : ¬ ((n : Int) < 0) := Int.not_lt.2 (Int.natCast_nonneg n); go_simp⟩) hC hS (fun hC hS => ?_)
  simp only [Act.put, List.setIfInBounds_toArray, List.set_cons_zero, List.set_cons_succ]
  refine AnyL.take (i := 7) (v := .slice A n c) (some 21) (fun _ => True) rfl (by kernel_rfl) (by kernel_rfl) (by kernel_rfl) (fun _ _ _ h => h) (fun _ _ _ _ _ => trivial) (fun l w' => Til.set (by decide) l w') (fun _ ho => by cases ho; exact Or.inl ⟨by rfl, fun w' _ => by go_simp⟩) hC hS (fun hC hS => ?_)
  simp only [Act.put, List.setIfInBounds_toArray, List.set_cons_zero, List.set_cons_succ]
  refine AnyL.take (i := 9) (v := .pointer (some ⟨g, 0, none⟩)) (some 23) (fun _ => True) rfl (by kernel_rfl) (by kernel_rfl) (by kernel_rfl) (fun _ _ _ h => h) (fun _ _ _ _ _ => trivial) (fun l w' => Til.set (by decide) l w') (fun _ ho => by cases ho; exact Or.inl ⟨by rfl, fun w' _ => by go_simp⟩) hC hS (fun hC hS => ?_)
  simp only [Act.put, List.setIfInBounds_toArray, List.set_cons_zero, List.set_cons_succ]
  refine AnyL.take (i := 10) (v := .pointer (some ⟨g, 0, none⟩)) (some 24) (fun _ => True) rfl (by kernel_rfl) (by kernel_rfl) (by kernel_rfl) (fun _ _ _ h => h) (fun _ _ _ _ _ => trivial) (fun l w' => Til.set (by decide) l w') (fun _ ho => by cases ho; exact Or.inl ⟨by rfl, fun w' _ => by go_simp⟩) hC hS (fun hC hS => ?_)
  simp only [Act.put, List.setIfInBounds_toArray, List.set_cons_zero, List.set_cons_succ]
  refine AnyL.take (i := 11) (v := .pointer (some ⟨g, 1, none⟩)) (some 25) (fun _ => True) rfl (by kernel_rfl) (by kernel_rfl) (by kernel_rfl) (fun _ _ _ h => h) (fun _ _ _ _ _ => trivial) (fun l w' => Til.set (by decide) l w') (fun _ ho => by cases ho; exact Or.inl ⟨by rfl, fun w' _ => by go_simp⟩) hC hS (fun hC hS => ?_)
  simp only [Act.put, List.setIfInBounds_toArray, List.set_cons_zero, List.set_cons_succ]
  refine AnyL.take (i := 12) (v := .int .i64 dp) (some 26) (TwoC ⟨g, 0, none⟩ ⟨g, 1, none⟩ (.slice A ds.length c) (.int .i64 dp)) rfl (by kernel_rfl) (by kernel_rfl) (by kernel_rfl) (fun _ _ _ h => h) (fun l w' hC hl hS => hS (hC.un (j := 15) (i := 13) (by kernel_rfl) (hC.un (j := 13) (i := 12) (by kernel_rfl) hl))) (fun l w' => Til.set (by decide) l w') (fun _ ho => by cases ho; exact Or.inl ⟨by rfl, fun w' hB => by have h0 := hB.2; go_simp⟩) hC hS (fun hC hS => ?_)
  simp only [Act.put, List.setIfInBounds_toArray, List.set_cons_zero, List.set_cons_succ]
  have HS2 := Lib.hid (show TwoC ⟨g, 0, none⟩ ⟨g, 1, none⟩ (.slice A ds.length c) (.int .i64 dp) w.drew from ⟨x0, x1⟩)
  clear hS
  refine AnyL.both 0 14 (by kernel_rfl) hC (fun o ho K hK => ?_) (fun o ho K hK => ?_)
  ·
    cases ho
    go_simp
    refine hK.out _ _ (Til.mk (HS2.out.old ((Old.refl w.drew).alloc (.cells #[] 5)))) (fun hC hS => ?_)
    clear hK K hS
    try simp only [Act.put]
    try simp only [List.setIfInBounds_toArray]
    try simp only [List.set_cons_succ]
    try simp only [List.set_cons_zero]
    refine AnyL.both 8 14 (by kernel_rfl) hC (fun o ho K hK => ?_) (fun o ho K hK => ?_)
    ·
      cases ho
      refine step_joinB (by rfl) (.tmp 14) (.tmp 21) (by rfl) w.heap.size iv HI.out HZ0.out HZ1.out HZ2.out (w.heap.size) 0 0 [] (by rfl) (World.ownsRow_made w.drew #[] 0 (Nat.le_refl _) (by decide) rfl) _ (by rfl) n (dcells (ds.take (n))) (TAK.out.old ((Old.refl w.drew).alloc (.cells #[] 5))) (by omega) (by simp; try omega) ?_
      intro gn cap w3 hown hg hat
      have hold3 := Old.grown ((Old.refl w.drew).alloc (.cells #[] 5)) hg (fun k hk => by cases hk; simp; try omega)
      refine hK.out _ _ (Til.mk (HS2.out.old hold3)) (fun hC hS => ?_)
      clear hK K hS
      try simp only [Act.put]
      try simp only [List.setIfInBounds_toArray]
      try simp only [List.set_cons_succ]
      try simp only [List.set_cons_zero]
      have HOLDX := Lib.hid hold3
      refine AnyL.take (i := 13) (v := .agg #[.slice (some ⟨gn, 0, none⟩) (0 + n) cap, .int .i64 dp]) (some 27) (fun _ => True) rfl (by kernel_rfl) (by kernel_rfl) (by kernel_rfl) (fun _ _ _ h => h) (fun _ _ _ _ _ => trivial) (fun l w' => Til.set (by decide) l w') (fun _ ho => by cases ho; exact Or.inl ⟨by rfl, fun w' _ => by go_simp⟩) hC (Til.mk (HS2.out.old HOLDX.out)) (fun hC hS => ?_)
      try simp only [Act.put]
      try simp only [List.setIfInBounds_toArray]
      try simp only [List.set_cons_succ]
      try simp only [List.set_cons_zero]
      refine AnyL.nxt 14 (by kernel_rfl) hC (fun o ho K hK => ?_)
      cases ho
      go_simp
      refine hK.out _ _ (Til.mk (HS2.out.old (HOLDX.out.alloc _))) (fun hC hS => ?_)
      clear hK K hS
      try simp only [Act.put]
      try simp only [List.setIfInBounds_toArray]
      try simp only [List.set_cons_succ]
      try simp only [List.set_cons_zero]
      refine AnyL.nxt 15 (by kernel_rfl) hC (fun o ho K hK => ?_)
      cases ho
      go_simp
      refine hK.out _ _ (Til.late (by rfl)) (fun hC hS => ?_)
      clear hK K
      refine AnyL.done (by kernel_rfl) ?_ _
      clear hC hS
      have hcp := (CopyOk.one (w := w) (dp := dp) (Old.refl w).drew (by simp; omega) hown hg)
      simp only [Nat.zero_add] at hcp
      have HCP := Lib.hid hcp
      clear hcp
      have hgl := hown.lt _ rfl
      clear hown hg hat hold3
      have hdec : DecAt _ (w3.heap.size) (.slice (some ⟨gn, 0, none⟩) (n) cap) (ds.take n) dp := HCP.out.dec
      have HDEC := Lib.hid hdec
      clear hdec
      go_wp2_with (go_at_call 150; go_must (refine (trim_any _ _ _ _ _ (by simp; omega) HDEC.out).mono ?_; rintro e w5 ⟨v5, j, rfl, hj, hz, hl', hd5, hc5⟩; have HJ := Lib.hid hj; have HZ := Lib.hid hz; have HLL := Lib.hid hl'; have HD5 := Lib.hid hd5; have HC5 := Lib.hid hc5; clear hj hz hl' hd5 hc5))
      go_ret
      exact down_end HC.out hn HCP.out rfl HJ.out HZ.out HLL.out HD5.out HC5.out
    ·
      cases ho
      go_simp
      refine hK.out _ _ (Til.mk (HS2.out.old (((Old.refl w.drew).alloc (.cells #[] 5)).alloc (.cells #[.slice none 0 0, .int .i64 0] 201)))) (fun hC hS => ?_)
      clear hK K hS
      try simp only [Act.put]
      try simp only [List.setIfInBounds_toArray]
      try simp only [List.set_cons_succ]
      try simp only [List.set_cons_zero]
      refine AnyL.nxt 8 (by kernel_rfl) hC (fun o ho K hK => ?_)
      cases ho
      refine step_joinB (by rfl) (.tmp 14) (.tmp 21) (by rfl) w.heap.size iv HI.out HZ0.out HZ1.out HZ2.out (w.heap.size) 0 0 [] (by rfl) (own_old (World.ownsRow_made w.drew #[] 0 (Nat.le_refl _) (by decide) rfl) ((Old.refl _).alloc _)) _ (by rfl) n (dcells (ds.take (n))) (TAK.out.old (((Old.refl w.drew).alloc (.cells #[] 5)).alloc (.cells #[.slice none 0 0, .int .i64 0] 201))) (by omega) (by simp; try omega) ?_
      intro gn cap w3 hown hg hat
      have hold3 := Old.grown (((Old.refl w.drew).alloc (.cells #[] 5)).alloc (.cells #[.slice none 0 0, .int .i64 0] 201)) hg (fun k hk => by cases hk; simp; try omega)
      refine hK.out _ _ (Til.mk (HS2.out.old hold3)) (fun hC hS => ?_)
      clear hK K hS
      try simp only [Act.put]
      try simp only [List.setIfInBounds_toArray]
      try simp only [List.set_cons_succ]
      try simp only [List.set_cons_zero]
      have HOLDX := Lib.hid hold3
      refine AnyL.take (i := 13) (v := .agg #[.slice (some ⟨gn, 0, none⟩) (0 + n) cap, .int .i64 dp]) (some 27) (fun _ => True) rfl (by kernel_rfl) (by kernel_rfl) (by kernel_rfl) (fun _ _ _ h => h) (fun _ _ _ _ _ => trivial) (fun l w' => Til.set (by decide) l w') (fun _ ho => by cases ho; exact Or.inl ⟨by rfl, fun w' _ => by go_simp⟩) hC (Til.mk (HS2.out.old HOLDX.out)) (fun hC hS => ?_)
      try simp only [Act.put]
      try simp only [List.setIfInBounds_toArray]
      try simp only [List.set_cons_succ]
      try simp only [List.set_cons_zero]
      have hb4 : Blk w3 (w.heap.size + 1) #[.slice none 0 0, .int .i64 0] 201 := (show Blk _ (w.heap.size + 1) #[.slice none 0 0, .int .i64 0] 201 from (Blk.new_ (w := w.drew.alloc (.cells #[] 5)) (B := w.heap.size + 1) (by simp) _ _)).chg (Chg.grown (ok := fun b => b = w.heap.size + 1) (Chg.refl _ _) hg fun k _ ho e => by cases e; omega) rfl
      have z0 : w3.cell? ⟨w.heap.size + 1, 0, none⟩ = some (.slice none 0 0) := hb4.cell 0
      have z1 : w3.cell? ⟨w.heap.size + 1, 1, none⟩ = some (.int .i64 0) := hb4.cell 1
      have zf0 := hb4.frozen 0
      have zf1 := hb4.frozen 1
      have zl := hb4.lt
      refine AnyL.nxt 15 (by kernel_rfl) hC (fun o ho K hK => ?_)
      cases ho
      go_simp
      refine hK.out _ _ (Til.late (by rfl)) (fun hC hS => ?_)
      clear hK K
      refine AnyL.done (by kernel_rfl) ?_ _
      clear hC hS
      have hcp := (CopyOk.two (w := w) (dp := dp) (gb := w.heap.size + 1) (Old.refl w).drew (((Old.refl w.drew).alloc (.cells #[] 5)).alloc (.cells #[.slice none 0 0, .int .i64 0] 201)) (by simp) (Blk.new_ (w := w.drew.alloc (.cells #[] 5)) (B := w.heap.size + 1) (by simp) _ _) (by simp; omega) hown hg (fun k hk => by cases hk; simp; try omega))
      simp only [Nat.zero_add] at hcp
      have HCP := Lib.hid hcp
      clear hcp
      clear hown hg hat hold3 hb4 z0 z1 zf0 zf1
      have hdec : DecAt _ (w.heap.size + 1) (.slice (some ⟨gn, 0, none⟩) (n) cap) (ds.take n) dp := HCP.out.dec
      have HDEC := Lib.hid hdec
      clear hdec
      go_wp2_with (go_at_call 150; go_must (refine (trim_any _ _ _ _ _ (by simp; omega) HDEC.out).mono ?_; rintro e w5 ⟨v5, j, rfl, hj, hz, hl', hd5, hc5⟩; have HJ := Lib.hid hj; have HZ := Lib.hid hz; have HLL := Lib.hid hl'; have HD5 := Lib.hid hd5; have HC5 := Lib.hid hc5; clear hj hz hl' hd5 hc5))
      go_ret
      exact down_end HC.out hn HCP.out rfl HJ.out HZ.out HLL.out HD5.out HC5.out
  ·
    cases ho
    go_simp
    refine hK.out _ _ (Til.mk (HS2.out.old ((Old.refl w.drew).alloc (.cells #[.slice none 0 0, .int .i64 0] 201)))) (fun hC hS => ?_)
    clear hK K hS
    try simp only [Act.put]
    try simp only [List.setIfInBounds_toArray]
    try simp only [List.set_cons_succ]
    try simp only [List.set_cons_zero]
    refine AnyL.nxt 0 (by kernel_rfl) hC (fun o ho K hK => ?_)
    cases ho
    go_simp
    refine hK.out _ _ (Til.mk (HS2.out.old (((Old.refl w.drew).alloc (.cells #[.slice none 0 0, .int .i64 0] 201)).alloc (.cells #[] 5)))) (fun hC hS => ?_)
    clear hK K hS
    try simp only [Act.put]
    try simp only [List.setIfInBounds_toArray]
    try simp only [List.set_cons_succ]
    try simp only [List.set_cons_zero]
    refine AnyL.nxt 8 (by kernel_rfl) hC (fun o ho K hK => ?_)
    cases ho
    refine step_joinB (by rfl) (.tmp 14) (.tmp 21) (by rfl) w.heap.size iv HI.out HZ0.out HZ1.out HZ2.out (w.heap.size + 1) 0 0 [] (by rfl) (show ((w.drew.alloc (.cells #[.slice none 0 0, .int .i64 0] 201)).alloc (.cells #[] 5)).ownsRow w.heap.size 5 1 (.slice (some ⟨w.heap.size + 1, 0, none⟩) 0 0) 0 [] by have := World.ownsRow_made (base := w.heap.size) (e := 5) (size := 1) (w.drew.alloc (.cells #[.slice none 0 0, .int .i64 0] 201)) #[] 0 (by simp) (by decide) rfl; simpa using this) _ (by rfl) n (dcells (ds.take (n))) (TAK.out.old (((Old.refl w.drew).alloc (.cells #[.slice none 0 0, .int .i64 0] 201)).alloc (.cells #[] 5))) (by omega) (by simp; try omega) ?_
    intro gn cap w3 hown hg hat
    have hold3 := Old.grown (((Old.refl w.drew).alloc (.cells #[.slice none 0 0, .int .i64 0] 201)).alloc (.cells #[] 5)) hg (fun k hk => by cases hk; simp; try omega)
    refine hK.out _ _ (Til.mk (HS2.out.old hold3)) (fun hC hS => ?_)
    clear hK K hS
    try simp only [Act.put]
    try simp only [List.setIfInBounds_toArray]
    try simp only [List.set_cons_succ]
    try simp only [List.set_cons_zero]
    have HOLDX := Lib.hid hold3
    refine AnyL.take (i := 13) (v := .agg #[.slice (some ⟨gn, 0, none⟩) (0 + n) cap, .int .i64 dp]) (some 27) (fun _ => True) rfl (by kernel_rfl) (by kernel_rfl) (by kernel_rfl) (fun _ _ _ h => h) (fun _ _ _ _ _ => trivial) (fun l w' => Til.set (by decide) l w') (fun _ ho => by cases ho; exact Or.inl ⟨by rfl, fun w' _ => by go_simp⟩) hC (Til.mk (HS2.out.old HOLDX.out)) (fun hC hS => ?_)
    try simp only [Act.put]
    try simp only [List.setIfInBounds_toArray]
    try simp only [List.set_cons_succ]
    try simp only [List.set_cons_zero]
    have hb4 : Blk w3 (w.heap.size) #[.slice none 0 0, .int .i64 0] 201 := (show Blk _ (w.heap.size) #[.slice none 0 0, .int .i64 0] 201 from ((Blk.new w.drew #[.slice none 0 0, .int .i64 0] 201).alloc _)).chg (Chg.grown (ok := fun b => b = w.heap.size) (Chg.refl _ _) hg fun k _ ho e => by cases e; omega) rfl
    have z0 : w3.cell? ⟨w.heap.size, 0, none⟩ = some (.slice none 0 0) := hb4.cell 0
    have z1 : w3.cell? ⟨w.heap.size, 1, none⟩ = some (.int .i64 0) := hb4.cell 1
    have zf0 := hb4.frozen 0
    have zf1 := hb4.frozen 1
    have zl := hb4.lt
    refine AnyL.nxt 15 (by kernel_rfl) hC (fun o ho K hK => ?_)
    cases ho
    go_simp
    refine hK.out _ _ (Til.late (by rfl)) (fun hC hS => ?_)
    clear hK K
    refine AnyL.done (by kernel_rfl) ?_ _
    clear hC hS
    have hcp := (CopyOk.two (w := w) (dp := dp) (gb := w.heap.size) (Old.refl w).drew (((Old.refl w.drew).alloc (.cells #[.slice none 0 0, .int .i64 0] 201)).alloc (.cells #[] 5)) (by simp) ((Blk.new w.drew #[.slice none 0 0, .int .i64 0] 201).alloc _) (by simp; omega) hown hg (fun k hk => by cases hk; simp; try omega))
    simp only [Nat.zero_add] at hcp
    have HCP := Lib.hid hcp
    clear hcp
    clear hown hg hat hold3 hb4 z0 z1 zf0 zf1
    have hdec : DecAt _ (w.heap.size) (.slice (some ⟨gn, 0, none⟩) (n) cap) (ds.take n) dp := HCP.out.dec
    have HDEC := Lib.hid hdec
    clear hdec
    go_wp2_with (go_at_call 150; go_must (refine (trim_any _ _ _ _ _ (by simp; omega) HDEC.out).mono ?_; rintro e w5 ⟨v5, j, rfl, hj, hz, hl', hd5, hc5⟩; have HJ := Lib.hid hj; have HZ := Lib.hid hz; have HLL := Lib.hid hl'; have HD5 := Lib.hid hd5; have HC5 := Lib.hid hc5; clear hj hz hl' hd5 hc5))
    go_ret
    exact down_end HC.out hn HCP.out rfl HJ.out HZ.out HLL.out HD5.out HC5.out
end Go.Proofs.YthggnkmlnjlggaaGreatDoor
