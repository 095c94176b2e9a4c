/-
  A decimal cut to n digits, from above: the walk of up.
  Conditions: none.
-/
import Derived.Test.YthggnkmlnjlggaaGreatDoorDown
namespace Go.Proofs.YthggnkmlnjlggaaGreatDoor
open Go.RowKit
attribute [local go_sem ↓] Go.wp_at_zero Go.wp_at_succ

/-- Nines behind: one more. -/
theorem nines {l : List Nat} {k : Nat} : ∀ m, (∀ j, k ≤ j → j < k + m → l.getD j 0 = 9) → pre l (k + m) + 1 = (pre l k + 1) * 10 ^ m
  | 0, _ => by simp
  | m + 1, h => by
    have := nines m fun j h1 h2 => h j h1 (by omega)
    rw [← Nat.add_assoc, pre, h (k + m) (by omega) (by omega), Nat.pow_succ, ← Nat.mul_assoc, ← this]
    omega
section
variable {w : World} {base g n cap i : Nat} {e : TypeId} {xs : List Value} {u : Value}
theorem own_at (h : w.ownsRow base e 1 (.slice (some ⟨g, 0, none⟩) n cap) n xs) (hu : xs[i]? = some u) : w.cell? ⟨g, i, none⟩ = some u ∧ w.frozen? ⟨g, i, none⟩ = false ∧ g < w.heap.size := by
  obtain ⟨h1, h2 | ⟨g', cap', cur, h2, h3, h4, h5, h6, h7, h8⟩⟩ := h
  · cases h2.1
  · cases h2
    have hlt : g < w.heap.size := (Array.getElem?_eq_some_iff.1 h4).1
    refine ⟨?_, by simp [World.frozen?, h4], hlt⟩
    have hi : i < n := by have := (List.getElem?_eq_some_iff.1 hu).1; omega
    rw [← h8, List.getElem?_take, if_pos (by omega)] at hu
    simpa [World.cell?, h4] using hu
theorem own_store (h : w.ownsRow base e 1 (.slice (some ⟨g, 0, none⟩) n cap) n xs) (u : Value) : (w.setCell ⟨g, i, none⟩ u).ownsRow base e 1 (.slice (some ⟨g, 0, none⟩) n cap) n (xs.set i u) := by
  obtain ⟨h1, h2 | ⟨g', cap', cur, h2, h3, h4, h5, h6, h7, h8⟩⟩ := h
  · cases h2.1
  · cases h2
    refine ⟨by simpa using h1, .inr ⟨g, cap, cur.setIfInBounds i u, rfl, h3, ?_, h5, h6, by simpa using h7, ?_⟩⟩
    · simp [World.setCell, Array.getElem?_modify, h4]
    · rw [Array.toList_setIfInBounds, List.take_set, h8]
end
theorem dcells_at {ds : List Nat} {k m : Nat} (hk : k < ds.length) (hm : k < m) : (dcells (ds.take m))[k]? = some (.int .u8 (ds.getD k 0 : Nat)) := by
  simp [dcells, hm, List.getD_eq_getElem?_getD, List.getElem?_eq_getElem hk]
theorem dcells_put {ds : List Nat} {k : Nat} (hk : k < ds.length) (d : Nat) : (dcells (ds.take (k + 1))).set k (.int .u8 ((d : Nat) : Int)) = dcells (ds.take k ++ [d]) := by
  rw [List.take_succ_eq_append_getElem hk]
  simp only [dcells, List.map_append, List.map_cons, List.map_nil]
  rw [List.set_append_right _ _ (by simp; omega)]
  have : k - (List.map (fun d : Nat => Value.int .u8 (d : Nat)) (ds.take k)).length = 0 := by simp; omega
  rw [this]
  rfl
/-- What is cut off from above. -/
def UpAns (w : World) (ds : List Nat) (dp : Int) (n : Nat) (e : Ending) (w' : World) : Prop :=
  ∃ gb v' ds' dp', e = .returned (.pointer (some ⟨gb, 0, none⟩)) ∧ DecAt w' gb v' ds' dp' ∧ Canon ds' ∧ ds'.length ≤ n + 1 ∧ dp' ≤ dp + 1 ∧ dp ≤ dp' ∧ (∀ s : Nat, (n : Int) ≤ dp + s → sc s ds' dp' = (pre ds n + 1) * 10 ^ (dp + s - n).toNat) ∧ Old w w'
theorem up_end {w wz : World} {gb gn cap n k d : Nat} {ds : List Nat} {dp : Int} {e : Ending} (hc : Canon ds) (hn : n < ds.length) (hk : k < n) (hd : ds.getD k 0 = d) (h9 : d < 9)
    (h : CopyOk w wz gb (.slice (some ⟨gn, 0, none⟩) (k + 1) cap) (ds.take (k + 1)) dp) (he : e = .returned (.pointer (some ⟨gb, 0, none⟩))) (hnn : ∀ j, k + 1 ≤ j → j < n → ds.getD j 0 = 9) :
    UpAns w ds dp n e (wz.setCell ⟨gn, k, none⟩ (.int .u8 ((d : Int) + 1))) := by
  have hne : gn ≠ gb := h.ne gn rfl
  have hlen : (ds.take (k + 1)).length = k + 1 := by simp; omega
  have hrow := h.row
  rw [hlen] at hrow
  have hgn := (own_lt hrow (b := gn) rfl).1
  have hl' : (ds.take k ++ [d + 1]).length = k + 1 := by simp; omega
  have hold : Old w (wz.setCell ⟨gn, k, none⟩ (.int .u8 ((d : Int) + 1))) := h.old.setCell (by simpa using hgn) _
  have hblk : Blk (wz.setCell ⟨gn, k, none⟩ (.int .u8 ((d : Int) + 1))) gb #[.slice (some ⟨gn, 0, none⟩) (k + 1) cap, .int .i64 dp] 201 := h.blk.far (by simpa using fun e => hne e.symm) _
  have hrow2 := own_store (i := k) hrow (.int .u8 ((d + 1 : Nat) : Int))
  rw [dcells_put (by omega)] at hrow2
  have hcop : CopyOk w (wz.setCell ⟨gn, k, none⟩ (.int .u8 ((d : Int) + 1))) gb (.slice (some ⟨gn, 0, none⟩) (k + 1) cap) (ds.take k ++ [d + 1]) dp := ⟨hblk, by rw [hl']; exact hrow2, h.ne, h.new_, hold⟩
  refine ⟨gb, _, _, dp, he, hcop.dec, ⟨fun x hx => ?_, ?_, ?_⟩, by omega, by omega, by omega, fun s hs => ?_, hold⟩
  · rcases List.mem_append.1 hx with hx | hx
    · exact hc.lt x (List.mem_of_mem_take hx)
    · simp at hx
      omega
  · match ds, k, hc.ne with
    | a :: r, 0, _ => simp
    | a :: r, k + 1, _ => simpa using hc.head
  · rw [vald_snoc]
    omega
  · have hp : pre ds n + 1 = (pre ds (k + 1) + 1) * 10 ^ (n - (k + 1)) := by
      obtain ⟨m, rfl⟩ := Nat.exists_eq_add_of_le (show k + 1 ≤ n from hk)
      rw [Nat.add_sub_cancel_left]
      exact nines m fun j h1 h2 => hnn j h1 h2
    have hv : vald (ds.take k ++ [d + 1]) = pre ds (k + 1) + 1 := by
      rw [vald_snoc, pre, pre_take ds k (by omega), hd]
      omega
    unfold sc
    rw [hp, hv, hl', Nat.mul_assoc, ← Nat.pow_add]
    congr 2
    omega
theorem up_one {w : World} {n : Nat} {ds : List Nat} {dp : Int} {e : Ending} (he : e = .returned (.pointer (some ⟨w.heap.size + 1, 0, none⟩))) (hnn : ∀ j, j < n → ds.getD j 0 = 9) :
    UpAns w ds dp n e ((w.alloc (.cells #[.int .u8 1] 5)).alloc (.cells #[.slice (some ⟨w.heap.size, 0, none⟩) 1 1, .int .i64 (dp + 1)] 201)) := by
  have hold : Old w ((w.alloc (.cells #[.int .u8 1] 5)).alloc (.cells #[.slice (some ⟨w.heap.size, 0, none⟩) 1 1, .int .i64 (dp + 1)] 201)) := ((Old.refl w).alloc _).alloc _
  have hblk := Blk.new (w.alloc (.cells #[.int .u8 1] 5)) #[.slice (some ⟨w.heap.size, 0, none⟩) 1 1, .int .i64 (dp + 1)] 201
  have hsz : (w.alloc (.cells #[.int .u8 1] 5)).heap.size = w.heap.size + 1 := by simp
  rw [hsz] at hblk
  have hrow0 : (w.alloc (.cells #[.int .u8 1] 5)).ownsRow w.heap.size 5 1 (.slice (some ⟨w.heap.size, 0, none⟩) 1 1) 1 (dcells [1]) := ⟨by simp [dcells], .inr ⟨w.heap.size, 1, _, rfl, Nat.le_refl _, Blk.new w #[.int .u8 1] 5, Nat.le_refl _, by decide, rfl, rfl⟩⟩
  have hrow := own_old hrow0 ((Old.refl _).alloc (.cells #[.slice (some ⟨w.heap.size, 0, none⟩) 1 1, .int .i64 (dp + 1)] 201))
  have hne : ∀ b, (Value.slice (some ⟨w.heap.size, 0, none⟩) 1 1).ownBlock = some b → b ≠ w.heap.size + 1 := fun b hb => by
    have : w.heap.size = b := by simpa [Value.ownBlock] using hb
    omega
  have hcop : CopyOk w _ (w.heap.size + 1) (.slice (some ⟨w.heap.size, 0, none⟩) 1 1) [1] (dp + 1) := ⟨hblk, hrow, hne, by omega, hold⟩
  refine ⟨_, _, _, dp + 1, he, hcop.dec, ⟨by simp, by simp, by decide⟩, by simp, by omega, by omega, fun s hs => ?_, hold⟩
  have hp := nines (l := ds) (k := 0) n fun j _ h2 => hnn j (by omega)
  rw [Nat.zero_add] at hp
  rw [hp]
  simp only [pre, Nat.zero_add, Nat.one_mul, ← Nat.pow_add]
  simp only [sc, vald, List.foldl_cons, List.foldl_nil, List.length_cons, List.length_nil]
  rw [show (10 * 0 + 1 : Nat) = 1 by rfl, Nat.one_mul]
  congr 1
  omega
set_option maxHeartbeats 8000000 in
set_option maxRecDepth 100000 in
theorem up_any (w : World) (g : Nat) (v : Value) (ds : List Nat) (dp : Int) (hc : Canon ds) (hl : ds.length ≤ 200) (hdp : -1000 ≤ dp ∧ dp ≤ 1000) (n : Nat) (hn : n < ds.length) (h : DecAt w g v ds dp) :
    Calls Tryz.prog 154 #[.pointer (some ⟨g, 0, none⟩), .int .i64 (n : Nat)] w (UpAns w ds dp n) := by
  obtain ⟨A, c, rfl, hcap⟩ := h.row.len
  have x0 : w.cell? ⟨g, 0, none⟩ = some (.slice A ds.length c) := h.blk.cell 0
  have x1 : w.cell? ⟨g, 1, none⟩ = some (.int .i64 dp) := h.blk.cell 1
  have HC := Lib.hid hc
  have H := Lib.hid h
  have hnd : decide ((ds.length : Int) ≤ (n : Int)) = false := by simp; omega
  have hnd2 : ¬ ((ds.length : Int) ≤ (n : Int)) := by omega
  have s1 : IntKind.i64.wrap ((n : Int) - 1) = (n : Int) - 1 := IntWalk.i64_in _ (by omega)
  obtain ⟨iv, hi, hz0, hz1, hz2⟩ := info_parts Tryz.infoByte
  have HI := Lib.hid hi
  have HZ0 := Lib.hid hz0
  have HZ1 := Lib.hid hz1
  have HZ2 := Lib.hid hz2
  clear hi hz0 hz1 hz2
  clear h hc
  go_enter Tryz.func154, Tryz.ntmps154
  go_wp2
  go_loopg [5] n (fun gk s5 wr => s5 = .int .i64 ((gk : Int) - 1) ∧ gk ≤ n ∧ (∀ j, gk ≤ j → j < n → ds.getD j 0 = 9) ∧ w = wr)
  case atStart => exact ⟨by go_num, Nat.le_refl _, fun j h1 h2 => by omega, rfl⟩
  case round =>
    obtain ⟨rfl, hgn, hnn, rfl⟩ := hrel
    rcases gk with _ | k
    · clear H
      have hk0 : ¬ ((0 : Int) ≤ ((0 : Nat) : Int) - 1) := by decide
      have s2 : IntKind.i64.wrap (dp + 1) = dp + 1 := IntWalk.i64_in _ (by omega)
      have x1a := ((Old.refl w).alloc (.cells #[.int .u8 1] 5)).cell x1
      go_wp2
      go_ret
      exact up_one rfl fun j hj => hnn j (Nat.zero_le _) hj
    · obtain ⟨z, hz⟩ : ∃ z : Int, z = (k : Nat) := ⟨_, rfl⟩
      have hz' : (((k + 1 : Nat) : Int) - 1) = (k : Nat) := by omega
      rw [hz']
      clear hz hz' z
      obtain ⟨b, o, rfl, hb, k0⟩ := H.out.row.at_ k (by omega)
      have hd10 := pre_digit HC.out.lt k
      obtain ⟨d, hd⟩ : ∃ d, d = ds.getD k 0 := ⟨_, rfl⟩
      rw [← hd] at k0 hd10
      have HD := Lib.hid hd.symm
      have HNN := Lib.hid hnn
      have hkl : k < ds.length := by omega
      clear hnn hd
      have hk1 : (k : Int) < (ds.length : Int) := by omega
      have hkt : ((k : Int)).toNat = k := by omega
      by_cases h9 : d < 9
      · have h9i : (d : Int) < 9 := by omega
        have hcell := HD.out
        have hud : (dcells (ds.take (k + 1)))[k]? = some (.int .u8 (d : Nat)) := by rw [← HD.out]; exact dcells_at hkl (by omega)
        have HUD := Lib.hid hud
        have HN9 := Lib.hid (show ∀ j, k + 1 ≤ j → j < n → ds.getD j 0 = 9 from HNN.out)
        have TAK := Lib.hid (show TakenB w.drew (.slice (some ⟨b, o, none⟩) (k + 1) c) (k + 1) (dcells (ds.take (k + 1))) by
          have := (DRow.take H.out.row (k + 1) (by omega)).taken
          rw [List.length_take, Nat.min_eq_left (by omega)] at this
          exact this.old (Old.refl w).drew)
        have s9 : IntKind.u8.wrap ((d : Int) + 1) = (d : Int) + 1 := IntWalk.u8_in _ (by omega)
        clear hud hcell H HNN
        go_upto_region 7 with (fail)
        have s2 : IntKind.i64.wrap ((k : Int) + 1) = (k : Int) + 1 := IntWalk.i64_in _ (by omega)
        have s3 : (0 : Int) ≤ (k : Int) + 1 := by omega
        have s4 : ((k : Int) + 1).toNat = k + 1 := by omega
        have s5 : ¬ ((c : Int) < (k : Int) + 1) := by omega
        have s6 : (k : Int) + 1 ≤ (c : Nat) := by omega
        refine AnyL.region 16 (S := Til 15 (TwoC ⟨g, 0, none⟩ ⟨g, 1, none⟩ (.slice (some ⟨b, o, none⟩) ds.length c) (.int .i64 dp))) rfl (by kernel_rfl) (fun hC => ?_)
        have hS : Til 15 (TwoC ⟨g, 0, none⟩ ⟨g, 1, none⟩ (.slice (some ⟨b, o, none⟩) ds.length c) (.int .i64 dp)) (Array.replicate 16 false) w.drew := Til.mk ⟨x0, x1⟩
        refine AnyL.take (i := 1) (v := .pointer (some ⟨g, 0, none⟩)) (some 30) (fun _ => True) rfl (by kernel_rfl) (by kernel_rfl) (by kernel_rfl) (fun _ _ _ h => h) (fun _ _ _ _ _ => trivial) (fun l w' => Til.set (by decide) l w') (fun _ ho => by cases ho; exact Or.inl ⟨by rfl, fun w' _ => by go_simp⟩) hC hS (fun hC hS => ?_)
        simp only [Act.put, List.setIfInBounds_toArray, List.set_cons_zero, List.set_cons_succ]
        refine AnyL.take (i := 2) (v := .pointer (some ⟨g, 0, none⟩)) (some 31) (fun _ => True) rfl (by kernel_rfl) (by kernel_rfl) (by kernel_rfl) (fun _ _ _ h => h) (fun _ _ _ _ _ => trivial) (fun l w' => Til.set (by decide) l w') (fun _ ho => by cases ho; exact Or.inl ⟨by rfl, fun w' _ => by go_simp⟩) hC hS (fun hC hS => ?_)
        simp only [Act.put, List.setIfInBounds_toArray, List.set_cons_zero, List.set_cons_succ]
        refine AnyL.take (i := 3) (v := .pointer (some ⟨g, 0, none⟩)) (some 32) (fun _ => True) rfl (by kernel_rfl) (by kernel_rfl) (by kernel_rfl) (fun _ _ _ h => h) (fun _ _ _ _ _ => trivial) (fun l w' => Til.set (by decide) l w') (fun _ ho => by cases ho; exact Or.inl ⟨by rfl, fun w' _ => by go_simp⟩) hC hS (fun hC hS => ?_)
        simp only [Act.put, List.setIfInBounds_toArray, List.set_cons_zero, List.set_cons_succ]
        refine AnyL.take (i := 4) (v := .slice (some ⟨b, o, none⟩) ds.length c) (some 33) (TwoC ⟨g, 0, none⟩ ⟨g, 1, none⟩ (.slice (some ⟨b, o, none⟩) ds.length c) (.int .i64 dp)) rfl (by kernel_rfl) (by kernel_rfl) (by kernel_rfl) (fun _ _ _ h => h) (fun l w' hC hl hS => hS (hC.un (j := 15) (i := 13) (by kernel_rfl) (hC.un (j := 13) (i := 8) (by kernel_rfl) (hC.un (j := 8) (i := 7) (by kernel_rfl) (hC.un (j := 7) (i := 4) (by kernel_rfl) hl))))) (fun l w' => Til.set (by decide) l w') (fun _ ho => by cases ho; exact Or.inl ⟨by rfl, fun w' hB => by have h0 := hB.1; go_simp⟩) hC hS (fun hC hS => ?_)
        simp only [Act.put, List.setIfInBounds_toArray, List.set_cons_zero, List.set_cons_succ]
        refine AnyL.take (i := 5) (v := .int .i64 (k : Nat)) (some 34) (fun _ => True) rfl (by kernel_rfl) (by kernel_rfl) (by kernel_rfl) (fun _ _ _ h => h) (fun _ _ _ _ _ => trivial) (fun l w' => Til.set (by decide) l w') (fun _ ho => by cases ho; exact Or.inl ⟨by rfl, fun w' _ => by go_simp⟩) hC hS (fun hC hS => ?_)
        simp only [Act.put, List.setIfInBounds_toArray, List.set_cons_zero, List.set_cons_succ]
        refine AnyL.take (i := 6) (v := .int .i64 ((k : Nat) + 1)) (some 35) (fun _ => True) rfl (by kernel_rfl) (by kernel_rfl) (by kernel_rfl) (fun _ _ _ h => h) (fun _ _ _ _ _ => trivial) (fun l w' => Til.set (by decide) l w') (fun _ ho => by cases ho; exact Or.inl ⟨by rfl, fun w' _ => by go_simp⟩) hC hS (fun hC hS => ?_)
        simp only [Act.put, List.setIfInBounds_toArray, List.set_cons_zero, List.set_cons_succ]
        refine AnyL.take (i := 7) (v := .slice (some ⟨b, o, none⟩) (k + 1) c) (some 36) (fun _ => True) rfl (by kernel_rfl) (by kernel_rfl) (by kernel_rfl) (fun _ _ _ h => h) (fun _ _ _ _ _ => trivial) (fun l w' => Til.set (by decide) l w') (fun _ ho => by cases ho; exact Or.inl ⟨by rfl, fun w' _ => by go_simp⟩) hC hS (fun hC hS => ?_)
        simp only [Act.put, List.setIfInBounds_toArray, List.set_cons_zero, List.set_cons_succ]
        refine AnyL.take (i := 9) (v := .pointer (some ⟨g, 0, none⟩)) (some 38) (fun _ => True) rfl (by kernel_rfl) (by kernel_rfl) (by kernel_rfl) (fun _ _ _ h => h) (fun _ _ _ _ _ => trivial) (fun l w' => Til.set (by decide) l w') (fun _ ho => by cases ho; exact Or.inl ⟨by rfl, fun w' _ => by go_simp⟩) hC hS (fun hC hS => ?_)
        simp only [Act.put, List.setIfInBounds_toArray, List.set_cons_zero, List.set_cons_succ]
        refine AnyL.take (i := 10) (v := .pointer (some ⟨g, 0, none⟩)) (some 39) (fun _ => True) rfl (by kernel_rfl) (by kernel_rfl) (by kernel_rfl) (fun _ _ _ h => h) (fun _ _ _ _ _ => trivial) (fun l w' => Til.set (by decide) l w') (fun _ ho => by cases ho; exact Or.inl ⟨by rfl, fun w' _ => by go_simp⟩) hC hS (fun hC hS => ?_)
        simp only [Act.put, List.setIfInBounds_toArray, List.set_cons_zero, List.set_cons_succ]
        refine AnyL.take (i := 11) (v := .pointer (some ⟨g, 1, none⟩)) (some 40) (fun _ => True) rfl (by kernel_rfl) (by kernel_rfl) (by kernel_rfl) (fun _ _ _ h => h) (fun _ _ _ _ _ => trivial) (fun l w' => Til.set (by decide) l w') (fun _ ho => by cases ho; exact Or.inl ⟨by rfl, fun w' _ => by go_simp⟩) hC hS (fun hC hS => ?_)
        simp only [Act.put, List.setIfInBounds_toArray, List.set_cons_zero, List.set_cons_succ]
        refine AnyL.take (i := 12) (v := .int .i64 dp) (some 41) (TwoC ⟨g, 0, none⟩ ⟨g, 1, none⟩ (.slice (some ⟨b, o, none⟩) ds.length c) (.int .i64 dp)) rfl (by kernel_rfl) (by kernel_rfl) (by kernel_rfl) (fun _ _ _ h => h) (fun l w' hC hl hS => hS (hC.un (j := 15) (i := 13) (by kernel_rfl) (hC.un (j := 13) (i := 12) (by kernel_rfl) hl))) (fun l w' => Til.set (by decide) l w') (fun _ ho => by cases ho; exact Or.inl ⟨by rfl, fun w' hB => by have h0 := hB.2; go_simp⟩) hC hS (fun hC hS => ?_)
        simp only [Act.put, List.setIfInBounds_toArray, List.set_cons_zero, List.set_cons_succ]
        have HS2 := Lib.hid (show TwoC ⟨g, 0, none⟩ ⟨g, 1, none⟩ (.slice (some ⟨b, o, none⟩) ds.length c) (.int .i64 dp) w.drew from ⟨x0, x1⟩)
        clear hS
        refine AnyL.both 0 14 (by kernel_rfl) hC (fun o ho K hK => ?_) (fun o ho K hK => ?_)
        ·
          cases ho
          go_simp
          refine hK.out _ _ (Til.mk (HS2.out.old ((Old.refl w.drew).alloc (.cells #[] 5)))) (fun hC hS => ?_)
          clear hK K hS
          try simp only [Act.put]
          try simp only [List.setIfInBounds_toArray]
          try simp only [List.set_cons_succ]
          try simp only [List.set_cons_zero]
          refine AnyL.both 8 14 (by kernel_rfl) hC (fun o ho K hK => ?_) (fun o ho K hK => ?_)
          ·
            cases ho
            refine step_joinB (by rfl) (.tmp 29) (.tmp 36) (by rfl) w.heap.size iv HI.out HZ0.out HZ1.out HZ2.out (w.heap.size) 0 0 [] (by rfl) (World.ownsRow_made w.drew #[] 0 (Nat.le_refl _) (by decide) rfl) _ (by rfl) (k + 1) (dcells (ds.take ((k + 1)))) (TAK.out.old ((Old.refl w.drew).alloc (.cells #[] 5))) (by omega) (by simp; try omega) ?_
            intro gn cap w3 hown hg hat
            have hold3 := Old.grown ((Old.refl w.drew).alloc (.cells #[] 5)) hg (fun k hk => by cases hk; simp; try omega)
            refine hK.out _ _ (Til.mk (HS2.out.old hold3)) (fun hC hS => ?_)
            clear hK K hS
            try simp only [Act.put]
            try simp only [List.setIfInBounds_toArray]
            try simp only [List.set_cons_succ]
            try simp only [List.set_cons_zero]
            have HOLDX := Lib.hid hold3
            refine AnyL.take (i := 13) (v := .agg #[.slice (some ⟨gn, 0, none⟩) (0 + (k + 1)) cap, .int .i64 dp]) (some 42) (fun _ => True) rfl (by kernel_rfl) (by kernel_rfl) (by kernel_rfl) (fun _ _ _ h => h) (fun _ _ _ _ _ => trivial) (fun l w' => Til.set (by decide) l w') (fun _ ho => by cases ho; exact Or.inl ⟨by rfl, fun w' _ => by go_simp⟩) hC (Til.mk (HS2.out.old HOLDX.out)) (fun hC hS => ?_)
            try simp only [Act.put]
            try simp only [List.setIfInBounds_toArray]
            try simp only [List.set_cons_succ]
            try simp only [List.set_cons_zero]
            refine AnyL.nxt 14 (by kernel_rfl) hC (fun o ho K hK => ?_)
            cases ho
            go_simp
            refine hK.out _ _ (Til.mk (HS2.out.old (HOLDX.out.alloc _))) (fun hC hS => ?_)
            clear hK K hS
            try simp only [Act.put]
            try simp only [List.setIfInBounds_toArray]
            try simp only [List.set_cons_succ]
            try simp only [List.set_cons_zero]
            refine AnyL.nxt 15 (by kernel_rfl) hC (fun o ho K hK => ?_)
            cases ho
            go_simp
            refine hK.out _ _ (Til.late (by rfl)) (fun hC hS => ?_)
            clear hK K
            refine AnyL.done (by kernel_rfl) ?_ _
            clear hC hS
            have hcp := (CopyOk.one (w := w) (dp := dp) (Old.refl w).drew (by simp; omega) hown hg)
            simp only [Nat.zero_add] at hcp
            have HCP := Lib.hid hcp
            clear hcp
            have hgl := hown.lt _ rfl
            clear hown hg hat hold3
            have hv : _ = _ := HCP.out.blk.cell 0
            simp at hv
            have fv := HCP.out.blk.frozen 0
            have lv := HCP.out.blk.lt
            have hrw := HCP.out.row
            rw [show (ds.take (k + 1)).length = k + 1 by rw [List.length_take]; omega] at hrw
            obtain ⟨ht1, ht2, ht3⟩ := own_at hrw (i := k) (u := .int .u8 (d : Nat)) HUD.out
            clear hrw
            go_wp2
            go_ret
            have hfin := up_end (e := .returned (.pointer (some ⟨w3.heap.size, 0, none⟩))) HC.out hn (by omega) HD.out h9 HCP.out rfl HN9.out
            rw [World.setCell_alloc_past _ _ _ _ hgl.2] at hfin
            exact hfin
          ·
            cases ho
            go_simp
            refine hK.out _ _ (Til.mk (HS2.out.old (((Old.refl w.drew).alloc (.cells #[] 5)).alloc (.cells #[.slice none 0 0, .int .i64 0] 201)))) (fun hC hS => ?_)
            clear hK K hS
            try simp only [Act.put]
            try simp only [List.setIfInBounds_toArray]
            try simp only [List.set_cons_succ]
            try simp only [List.set_cons_zero]
            refine AnyL.nxt 8 (by kernel_rfl) hC (fun o ho K hK => ?_)
            cases ho
            refine step_joinB (by rfl) (.tmp 29) (.tmp 36) (by rfl) w.heap.size iv HI.out HZ0.out HZ1.out HZ2.out (w.heap.size) 0 0 [] (by rfl) (own_old (World.ownsRow_made w.drew #[] 0 (Nat.le_refl _) (by decide) rfl) ((Old.refl _).alloc _)) _ (by rfl) (k + 1) (dcells (ds.take ((k + 1)))) (TAK.out.old (((Old.refl w.drew).alloc (.cells #[] 5)).alloc (.cells #[.slice none 0 0, .int .i64 0] 201))) (by omega) (by simp; try omega) ?_
            intro gn cap w3 hown hg hat
            have hold3 := Old.grown (((Old.refl w.drew).alloc (.cells #[] 5)).alloc (.cells #[.slice none 0 0, .int .i64 0] 201)) hg (fun k hk => by cases hk; simp; try omega)
            refine hK.out _ _ (Til.mk (HS2.out.old hold3)) (fun hC hS => ?_)
            clear hK K hS
            try simp only [Act.put]
            try simp only [List.setIfInBounds_toArray]
            try simp only [List.set_cons_succ]
            try simp only [List.set_cons_zero]
            have HOLDX := Lib.hid hold3
            refine AnyL.take (i := 13) (v := .agg #[.slice (some ⟨gn, 0, none⟩) (0 + (k + 1)) cap, .int .i64 dp]) (some 42) (fun _ => True) rfl (by kernel_rfl) (by kernel_rfl) (by kernel_rfl) (fun _ _ _ h => h) (fun _ _ _ _ _ => trivial) (fun l w' => Til.set (by decide) l w') (fun _ ho => by cases ho; exact Or.inl ⟨by rfl, fun w' _ => by go_simp⟩) hC (Til.mk (HS2.out.old HOLDX.out)) (fun hC hS => ?_)
            try simp only [Act.put]
            try simp only [List.setIfInBounds_toArray]
            try simp only [List.set_cons_succ]
            try simp only [List.set_cons_zero]
            have hb4 : Blk w3 (w.heap.size + 1) #[.slice none 0 0, .int .i64 0] 201 := (show Blk _ (w.heap.size + 1) #[.slice none 0 0, .int .i64 0] 201 from (Blk.new_ (w := w.drew.alloc (.cells #[] 5)) (B := w.heap.size + 1) (by simp) _ _)).chg (Chg.grown (ok := fun b => b = w.heap.size + 1) (Chg.refl _ _) hg fun k _ ho e => by cases e; omega) rfl
            have z0 : w3.cell? ⟨w.heap.size + 1, 0, none⟩ = some (.slice none 0 0) := hb4.cell 0
            have z1 : w3.cell? ⟨w.heap.size + 1, 1, none⟩ = some (.int .i64 0) := hb4.cell 1
            have zf0 := hb4.frozen 0
            have zf1 := hb4.frozen 1
            have zl := hb4.lt
            refine AnyL.nxt 15 (by kernel_rfl) hC (fun o ho K hK => ?_)
            cases ho
            go_simp
            refine hK.out _ _ (Til.late (by rfl)) (fun hC hS => ?_)
            clear hK K
            refine AnyL.done (by kernel_rfl) ?_ _
            clear hC hS
            have hcp := (CopyOk.two (w := w) (dp := dp) (gb := w.heap.size + 1) (Old.refl w).drew (((Old.refl w.drew).alloc (.cells #[] 5)).alloc (.cells #[.slice none 0 0, .int .i64 0] 201)) (by simp) (Blk.new_ (w := w.drew.alloc (.cells #[] 5)) (B := w.heap.size + 1) (by simp) _ _) (by simp; omega) hown hg (fun k hk => by cases hk; simp; try omega))
            simp only [Nat.zero_add] at hcp
            have HCP := Lib.hid hcp
            clear hcp
            clear hown hg hat hold3 hb4 z0 z1 zf0 zf1
            have hv : _ = _ := HCP.out.blk.cell 0
            simp at hv
            have fv := HCP.out.blk.frozen 0
            have lv := HCP.out.blk.lt
            have hrw := HCP.out.row
            rw [show (ds.take (k + 1)).length = k + 1 by rw [List.length_take]; omega] at hrw
            obtain ⟨ht1, ht2, ht3⟩ := own_at hrw (i := k) (u := .int .u8 (d : Nat)) HUD.out
            clear hrw
            go_wp2
            go_ret
            have hfin := up_end (e := .returned (.pointer (some ⟨w.heap.size + 1, 0, none⟩))) HC.out hn (by omega) HD.out h9 HCP.out rfl HN9.out
            exact hfin
        ·
          cases ho
          go_simp
          refine hK.out _ _ (Til.mk (HS2.out.old ((Old.refl w.drew).alloc (.cells #[.slice none 0 0, .int .i64 0] 201)))) (fun hC hS => ?_)
          clear hK K hS
          try simp only [Act.put]
          try simp only [List.setIfInBounds_toArray]
          try simp only [List.set_cons_succ]
          try simp only [List.set_cons_zero]
          refine AnyL.nxt 0 (by kernel_rfl) hC (fun o ho K hK => ?_)
          cases ho
          go_simp
          refine hK.out _ _ (Til.mk (HS2.out.old (((Old.refl w.drew).alloc (.cells #[.slice none 0 0, .int .i64 0] 201)).alloc (.cells #[] 5)))) (fun hC hS => ?_)
          clear hK K hS
          try simp only [Act.put]
          try simp only [List.setIfInBounds_toArray]
          try simp only [List.set_cons_succ]
          try simp only [List.set_cons_zero]
          refine AnyL.nxt 8 (by kernel_rfl) hC (fun o ho K hK => ?_)
          cases ho
          refine step_joinB (by rfl) (.tmp 29) (.tmp 36) (by rfl) w.heap.size iv HI.out HZ0.out HZ1.out HZ2.out (w.heap.size + 1) 0 0 [] (by rfl) (show ((w.drew.alloc (.cells #[.slice none 0 0, .int .i64 0] 201)).alloc (.cells #[] 5)).ownsRow w.heap.size 5 1 (.slice (some ⟨w.heap.size + 1, 0, none⟩) 0 0) 0 [] by have := World.ownsRow_made (base := w.heap.size) (e := 5) (size := 1) (w.drew.alloc (.cells #[.slice none 0 0, .int .i64 0] 201)) #[] 0 (by simp) (by decide) rfl; simpa using this) _ (by rfl) (k + 1) (dcells (ds.take ((k + 1)))) (TAK.out.old (((Old.refl w.drew).alloc (.cells #[.slice none 0 0, .int .i64 0] 201)).alloc (.cells #[] 5))) (by omega) (by simp; try omega) ?_
          intro gn cap w3 hown hg hat
          have hold3 := Old.grown (((Old.refl w.drew).alloc (.cells #[.slice none 0 0, .int .i64 0] 201)).alloc (.cells #[] 5)) hg (fun k hk => by cases hk; simp; try omega)
          refine hK.out _ _ (Til.mk (HS2.out.old hold3)) (fun hC hS => ?_)
          clear hK K hS
          try simp only [Act.put]
          try simp only [List.setIfInBounds_toArray]
          try simp only [List.set_cons_succ]
          try simp only [List.set_cons_zero]
          have HOLDX := Lib.hid hold3
          refine AnyL.take (i := 13) (v := .agg #[.slice (some ⟨gn, 0, none⟩) (0 + (k + 1)) cap, .int .i64 dp]) (some 42) (fun _ => True) rfl (by kernel_rfl) (by kernel_rfl) (by kernel_rfl) (fun _ _ _ h => h) (fun _ _ _ _ _ => trivial) (fun l w' => Til.set (by decide) l w') (fun _ ho => by cases ho; exact Or.inl ⟨by rfl, fun w' _ => by go_simp⟩) hC (Til.mk (HS2.out.old HOLDX.out)) (fun hC hS => ?_)
          try simp only [Act.put]
          try simp only [List.setIfInBounds_toArray]
          try simp only [List.set_cons_succ]
          try simp only [List.set_cons_zero]
          have hb4 : Blk w3 (w.heap.size) #[.slice none 0 0, .int .i64 0] 201 := (show Blk _ (w.heap.size) #[.slice none 0 0, .int .i64 0] 201 from ((Blk.new w.drew #[.slice none 0 0, .int .i64 0] 201).alloc _)).chg (Chg.grown (ok := fun b => b = w.heap.size) (Chg.refl _ _) hg fun k _ ho e => by cases e; omega) rfl
          have z0 : w3.cell? ⟨w.heap.size, 0, none⟩ = some (.slice none 0 0) := hb4.cell 0
          have z1 : w3.cell? ⟨w.heap.size, 1, none⟩ = some (.int .i64 0) := hb4.cell 1
          have zf0 := hb4.frozen 0
          have zf1 := hb4.frozen 1
          have zl := hb4.lt
          refine AnyL.nxt 15 (by kernel_rfl) hC (fun o ho K hK => ?_)
          cases ho
          go_simp
          refine hK.out _ _ (Til.late (by rfl)) (fun hC hS => ?_)
          clear hK K
          refine AnyL.done (by kernel_rfl) ?_ _
          clear hC hS
          have hcp := (CopyOk.two (w := w) (dp := dp) (gb := w.heap.size) (Old.refl w).drew (((Old.refl w.drew).alloc (.cells #[.slice none 0 0, .int .i64 0] 201)).alloc (.cells #[] 5)) (by simp) ((Blk.new w.drew #[.slice none 0 0, .int .i64 0] 201).alloc _) (by simp; omega) hown hg (fun k hk => by cases hk; simp; try omega))
          simp only [Nat.zero_add] at hcp
          have HCP := Lib.hid hcp
          clear hcp
          clear hown hg hat hold3 hb4 z0 z1 zf0 zf1
          have hv : _ = _ := HCP.out.blk.cell 0
          simp at hv
          have fv := HCP.out.blk.frozen 0
          have lv := HCP.out.blk.lt
          have hrw := HCP.out.row
          rw [show (ds.take (k + 1)).length = k + 1 by rw [List.length_take]; omega] at hrw
          obtain ⟨ht1, ht2, ht3⟩ := own_at hrw (i := k) (u := .int .u8 (d : Nat)) HUD.out
          clear hrw
          go_wp2
          go_ret
          have hfin := up_end (e := .returned (.pointer (some ⟨w.heap.size, 0, none⟩))) HC.out hn (by omega) HD.out h9 HCP.out rfl HN9.out
          exact hfin
      · obtain rfl : d = 9 := by omega
        have s2 : IntKind.i64.wrap ((k : Int) - 1) = (k : Int) - 1 := IntWalk.i64_in _ (by omega)
        have hn9 : ¬ (((9 : Nat) : Int) < 9) := by decide
        have h9w := HD.out
        have HH2 := Lib.hid (show ∀ j, k ≤ j → j < n → ds.getD j 0 = 9 from fun j h1 h2 => by
          rcases Nat.eq_or_lt_of_le h1 with rfl | h1
          · exact HD.out
          · exact HNN.out j (by omega) h2)
        clear h9w HNN HD
        go_wp2
        go_roundg k
        case measure => omega
        case rel => exact ⟨rfl, by omega, HH2.out, rfl⟩
end Go.Proofs.YthggnkmlnjlggaaGreatDoor
