/-
  Decimals in memory: zeros at the end are struck; a digit is read.
  Conditions: none.
-/
import Derived.Test.YthggnkmlnjlggaaGreatDoorUint
import Derived.Test.YthggnkmlnjlggaaGreatDoorZNxt
import Derived.StillTailTactics
import Derived.Deep.DrawnRows
namespace Go.Proofs.YthggnkmlnjlggaaGreatDoor
open Go.RowKit
attribute [local go_sem ↓] Go.wp_at_zero Go.wp_at_succ

/-- A row of digits as bytes. -/
def DRow (w : World) (g : Nat) (v : Value) (ds : List Nat) : Prop := SliceV w (fun b => b ≠ g) v 1 ds.length fun i => [.int .u8 (ds.getD i 0 : Nat)]
/-- A decimal in memory: its digits' row, and the place of its point. -/
structure DecAt (w : World) (g : Nat) (v : Value) (ds : List Nat) (dp : Int) : Prop where
  blk : Blk w g #[v, .int .i64 dp] 201
  row : DRow w g v ds
theorem DecAt.old {w w' : World} {g : Nat} {v : Value} {ds : List Nat} {dp : Int} (h : DecAt w g v ds dp) (ho : Old w w') : DecAt w' g v ds dp := ⟨h.blk.old ho, SliceV.old h.row ho⟩
theorem DRow.len {w : World} {g : Nat} {v : Value} {ds : List Nat} (h : DRow w g v ds) : ∃ A c, v = .slice A ds.length c ∧ ds.length ≤ c := SliceV.len h
theorem DRow.at_ {w : World} {g : Nat} {A : Option Addr} {c : Nat} {ds : List Nat} (h : DRow w g (.slice A ds.length c) ds) (i : Nat) (hi : i < ds.length) : ∃ b o, A = some ⟨b, o, none⟩ ∧ b < w.heap.size ∧ w.cell? ⟨b, o + i, none⟩ = some (.int .u8 (ds.getD i 0 : Nat)) := by
  obtain ⟨b, o, he, hb, _, hc⟩ := SliceV.at_ h i hi
  have := hc 0 (by omega)
  simp at this
  exact ⟨b, o, he, hb, by simpa [List.getD_eq_getElem?_getD] using this⟩
theorem DRow.take {w : World} {g : Nat} {A : Option Addr} {c : Nat} {ds : List Nat} (h : DRow w g (.slice A ds.length c) ds) (j : Nat) (hj : j ≤ ds.length) : DRow w g (.slice A j c) (ds.take j) := by
  obtain ⟨A', c', he, h1, h2, h3⟩ := h
  cases he
  have hl : (ds.take j).length = j := by simp; omega
  refine ⟨A, c, by rw [hl], by omega, h2, fun h0 => ?_⟩
  obtain ⟨b, o, cs, t, fz, he, ho, hh, hr⟩ := h3 (by omega)
  refine ⟨b, o, cs, t, fz, he, ho, hh, fun i hi => ⟨rfl, fun q hq => ?_⟩⟩
  rw [hl] at hi
  rw [(hr i (by omega)).2 q hq]
  simp [List.getD_eq_getElem?_getD, List.getElem?_take_of_lt hi]

/-- Zeros at the end are struck. -/
def TrimAns (w : World) (g : Nat) (ds : List Nat) (dp : Int) (e : Ending) (w' : World) : Prop :=
  ∃ v j, e = .returned (.pointer (some ⟨g, 0, none⟩)) ∧ j ≤ ds.length ∧ (∀ i, j ≤ i → ds.getD i 0 = 0) ∧ (0 < j → ds.getD (j - 1) 0 ≠ 0) ∧ DecAt w' g v (ds.take j) (if j = 0 then 0 else dp) ∧ Chg (fun b => b ≠ g) w w'
set_option maxHeartbeats 2000000 in
set_option maxRecDepth 100000 in
theorem trim_any (w : World) (g : Nat) (v : Value) (ds : List Nat) (dp : Int) (hl : ds.length ≤ 1000) (h : DecAt w g v ds dp) : Calls Tryz.prog 150 #[.pointer (some ⟨g, 0, none⟩)] w (TrimAns w g ds dp) := by
  obtain ⟨A, c, rfl, hc⟩ := h.row.len
  have H := Lib.hid h
  clear h
  go_enter Tryz.func150, Tryz.ntmps150
  go_wp2
  go_loopg [3] ds.length (fun gk s3 wr => s3 = s3 ∧ gk ≤ ds.length ∧ (∀ i, gk ≤ i → ds.getD i 0 = 0) ∧ DecAt wr g (.slice A gk c) (ds.take gk) dp ∧ DRow wr g (.slice A ds.length c) ds ∧ Chg (fun b => b ≠ g) w wr)
  case atStart => exact ⟨rfl, Nat.le_refl _, fun i hi => by simp [List.getD_eq_getElem?_getD, List.getElem?_eq_none hi], by rw [List.take_length]; exact H.out, H.out.row, Chg.refl _ _⟩
  case round =>
    obtain ⟨_, hj, hz, D, R, C⟩ := hrel
    have x0 := D.blk.cell 0
    have x1 := D.blk.cell 1
    have f0 := D.blk.frozen 0
    have f1 := D.blk.frozen 1
    by_cases h0 : gk = 0
    · subst h0
      go_upto_region 1 with (fail)
      go_quiet (fail)
      have D1 : DecAt (wr.drewN nq) g (.slice A 0 c) (ds.take 0) dp := D.old ((Old.refl wr).drewN nq)
      have C1 := C.drewN nq
      clear D R C x0 x1 f0 f1
      generalize wr.drewN nq = wq at *
      have x0 : wq.cell? ⟨g, 0, none⟩ = some (.slice A 0 c) := D1.blk.cell 0
      have x1 : wq.cell? ⟨g, 1, none⟩ = some (.int .i64 dp) := D1.blk.cell 1
      have f1 := D1.blk.frozen 1
      go_wp2
      go_ret
      refine ⟨.slice A 0 c, 0, rfl, Nat.zero_le _, hz, fun h => absurd h (by decide), ⟨D1.blk.set 1 _, SliceV.chg D1.row ((Chg.refl (fun b => b ≠ g) wq).setCell _ _ fun _ h => h rfl)⟩, C1.setCell _ _ fun _ h => h rfl⟩
    · obtain ⟨b, o, rfl, hb, k0⟩ := R.at_ (gk - 1) (by omega)
      have hd : (0 : Int) < (gk : Int) := by omega
      have hdt : decide (0 < gk) = true := by simp; omega
      by_cases hq : ds.getD (gk - 1) 0 = 0
      · rw [hq] at k0
        go_upto_region 1 with (fail)
        go_quiet (fail)
        have D1 : DecAt (wr.drewN nq) g (.slice (some ⟨b, o, none⟩) gk c) (ds.take gk) dp := D.old ((Old.refl wr).drewN nq)
        have R1 : DRow (wr.drewN nq) g (.slice (some ⟨b, o, none⟩) ds.length c) ds := SliceV.old R ((Old.refl wr).drewN nq)
        have C1 := C.drewN nq
        clear D R C x0 x1 f0 f1 k0
        generalize wr.drewN nq = wq at *
        have x0 : wq.cell? ⟨g, 0, none⟩ = some (.slice (some ⟨b, o, none⟩) gk c) := D1.blk.cell 0
        have f0 := D1.blk.frozen 0
        go_upto_region 2 with (fail)
        -- REGION 2
        have s1 : IntKind.i64.wrap ((gk : Int) - 1) = (gk : Int) - 1 := IntWalk.i64_in _ (by omega)
        have s2 : (1 : Int) ≤ (gk : Int) := by omega
        have s3 : ¬ ((c : Int) < (gk : Int) - 1) := by have : ds.length ≤ c := hc; omega
        have s4 : ((gk : Int) - 1).toNat = gk - 1 := by omega
        refine AnyL.region 15 (S := Til 14 (fun w' => w'.cell? ⟨g, 0, none⟩ = some (.slice (some ⟨b, o, none⟩) gk c) ∧ w'.frozen? ⟨g, 0, none⟩ = false)) rfl (by kernel_rfl) (fun hC => ?_)
        have hS : Til 14 (fun w' => w'.cell? ⟨g, 0, none⟩ = some (.slice (some ⟨b, o, none⟩) gk c) ∧ w'.frozen? ⟨g, 0, none⟩ = false) (Array.replicate 15 false) wq.drew := Til.mk ⟨x0, f0⟩
        refine AnyL.take (i := 0) (v := .pointer (some ⟨g, 0, none⟩)) (some 24) (fun _ => True) rfl (by kernel_rfl) (by kernel_rfl) (by kernel_rfl) (fun _ _ _ h => h) (fun _ _ _ _ _ => trivial) (fun l w' => Til.set (by decide) l w') (fun _ ho => by cases ho; exact Or.inl ⟨by rfl, fun w' _ => by go_simp⟩) hC hS (fun hC hS => ?_)
        simp only [Act.put, List.setIfInBounds_toArray, List.set_cons_zero, List.set_cons_succ]
        refine AnyL.take (i := 1) (v := .pointer (some ⟨g, 0, none⟩)) (some 25) (fun _ => True) rfl (by kernel_rfl) (by kernel_rfl) (by kernel_rfl) (fun _ _ _ h => h) (fun _ _ _ _ _ => trivial) (fun l w' => Til.set (by decide) l w') (fun _ ho => by cases ho; exact Or.inl ⟨by rfl, fun w' _ => by go_simp⟩) hC hS (fun hC hS => ?_)
        simp only [Act.put, List.setIfInBounds_toArray, List.set_cons_zero, List.set_cons_succ]
        refine AnyL.take (i := 2) (v := .pointer (some ⟨g, 0, none⟩)) (some 26) (fun _ => True) rfl (by kernel_rfl) (by kernel_rfl) (by kernel_rfl) (fun _ _ _ h => h) (fun _ _ _ _ _ => trivial) (fun l w' => Til.set (by decide) l w') (fun _ ho => by cases ho; exact Or.inl ⟨by rfl, fun w' _ => by go_simp⟩) hC hS (fun hC hS => ?_)
        simp only [Act.put, List.setIfInBounds_toArray, List.set_cons_zero, List.set_cons_succ]
        refine AnyL.take (i := 3) (v := .pointer (some ⟨g, 0, none⟩)) (some 27) (fun _ => True) rfl (by kernel_rfl) (by kernel_rfl) (by kernel_rfl) (fun _ _ _ h => h) (fun _ _ _ _ _ => trivial) (fun l w' => Til.set (by decide) l w') (fun _ ho => by cases ho; exact Or.inl ⟨by rfl, fun w' _ => by go_simp⟩) hC hS (fun hC hS => ?_)
        simp only [Act.put, List.setIfInBounds_toArray, List.set_cons_zero, List.set_cons_succ]
        refine AnyL.take (i := 4) (v := .slice (some ⟨b, o, none⟩) gk c) (some 28) (fun w' => w'.cell? ⟨g, 0, none⟩ = some (.slice (some ⟨b, o, none⟩) gk c) ∧ w'.frozen? ⟨g, 0, none⟩ = false) rfl (by kernel_rfl) (by kernel_rfl) (by kernel_rfl) (fun _ _ _ h => h) (fun l w' hC hl hS => hS (hC.un (j := 14) (i := 11) (by kernel_rfl) (hC.un (j := 11) (i := 4) (by kernel_rfl) hl))) (fun l w' => Til.set (by decide) l w') (fun _ ho => by cases ho; exact Or.inl ⟨by rfl, fun w' hB => by have h0 := hB.1; go_simp⟩) hC hS (fun hC hS => ?_)
        simp only [Act.put, List.setIfInBounds_toArray, List.set_cons_zero, List.set_cons_succ]
        refine AnyL.take (i := 5) (v := .pointer (some ⟨g, 0, none⟩)) (some 29) (fun _ => True) rfl (by kernel_rfl) (by kernel_rfl) (by kernel_rfl) (fun _ _ _ h => h) (fun _ _ _ _ _ => trivial) (fun l w' => Til.set (by decide) l w') (fun _ ho => by cases ho; exact Or.inl ⟨by rfl, fun w' _ => by go_simp⟩) hC hS (fun hC hS => ?_)
        simp only [Act.put, List.setIfInBounds_toArray, List.set_cons_zero, List.set_cons_succ]
        refine AnyL.take (i := 6) (v := .pointer (some ⟨g, 0, none⟩)) (some 30) (fun _ => True) rfl (by kernel_rfl) (by kernel_rfl) (by kernel_rfl) (fun _ _ _ h => h) (fun _ _ _ _ _ => trivial) (fun l w' => Til.set (by decide) l w') (fun _ ho => by cases ho; exact Or.inl ⟨by rfl, fun w' _ => by go_simp⟩) hC hS (fun hC hS => ?_)
        simp only [Act.put, List.setIfInBounds_toArray, List.set_cons_zero, List.set_cons_succ]
        refine AnyL.take (i := 7) (v := .pointer (some ⟨g, 0, none⟩)) (some 31) (fun _ => True) rfl (by kernel_rfl) (by kernel_rfl) (by kernel_rfl) (fun _ _ _ h => h) (fun _ _ _ _ _ => trivial) (fun l w' => Til.set (by decide) l w') (fun _ ho => by cases ho; exact Or.inl ⟨by rfl, fun w' _ => by go_simp⟩) hC hS (fun hC hS => ?_)
        simp only [Act.put, List.setIfInBounds_toArray, List.set_cons_zero, List.set_cons_succ]
        refine AnyL.take (i := 8) (v := .slice (some ⟨b, o, none⟩) gk c) (some 32) (fun w' => w'.cell? ⟨g, 0, none⟩ = some (.slice (some ⟨b, o, none⟩) gk c) ∧ w'.frozen? ⟨g, 0, none⟩ = false) rfl (by kernel_rfl) (by kernel_rfl) (by kernel_rfl) (fun _ _ _ h => h) (fun l w' hC hl hS => hS (hC.un (j := 14) (i := 11) (by kernel_rfl) (hC.un (j := 11) (i := 10) (by kernel_rfl) (hC.un (j := 10) (i := 9) (by kernel_rfl) (hC.un (j := 9) (i := 8) (by kernel_rfl) hl))))) (fun l w' => Til.set (by decide) l w') (fun _ ho => by cases ho; exact Or.inl ⟨by rfl, fun w' hB => by have h0 := hB.1; go_simp⟩) hC hS (fun hC hS => ?_)
        simp only [Act.put, List.setIfInBounds_toArray, List.set_cons_zero, List.set_cons_succ]
        refine AnyL.take (i := 9) (v := .int .i64 (gk : Nat)) (some 33) (fun _ => True) rfl (by kernel_rfl) (by kernel_rfl) (by kernel_rfl) (fun _ _ _ h => h) (fun _ _ _ _ _ => trivial) (fun l w' => Til.set (by decide) l w') (fun _ ho => by cases ho; exact Or.inl ⟨by rfl, fun w' _ => by go_simp⟩) hC hS (fun hC hS => ?_)
        simp only [Act.put, List.setIfInBounds_toArray, List.set_cons_zero, List.set_cons_succ]
        refine AnyL.take (i := 10) (v := .int .i64 ((gk : Int) - 1)) (some 34) (fun _ => True) rfl (by kernel_rfl) (by kernel_rfl) (by kernel_rfl) (fun _ _ _ h => h) (fun _ _ _ _ _ => trivial) (fun l w' => Til.set (by decide) l w') (fun _ ho => by cases ho; exact Or.inl ⟨by rfl, fun w' _ => by go_simp⟩) hC hS (fun hC hS => ?_)
        simp only [Act.put, List.setIfInBounds_toArray, List.set_cons_zero, List.set_cons_succ]
        refine AnyL.take (i := 11) (v := .slice (some ⟨b, o, none⟩) (gk - 1) c) (some 35) (fun _ => True) rfl (by kernel_rfl) (by kernel_rfl) (by kernel_rfl) (fun _ _ _ h => h) (fun _ _ _ _ _ => trivial) (fun l w' => Til.set (by decide) l w') (fun _ ho => by cases ho; exact Or.inl ⟨by rfl, fun w' _ => by go_simp⟩) hC hS (fun hC hS => ?_)
        simp only [Act.put, List.setIfInBounds_toArray, List.set_cons_zero, List.set_cons_succ]
        refine AnyL.take (i := 12) (v := .pointer (some ⟨g, 0, none⟩)) (some 36) (fun _ => True) rfl (by kernel_rfl) (by kernel_rfl) (by kernel_rfl) (fun _ _ _ h => h) (fun _ _ _ _ _ => trivial) (fun l w' => Til.set (by decide) l w') (fun _ ho => by cases ho; exact Or.inl ⟨by rfl, fun w' _ => by go_simp⟩) hC hS (fun hC hS => ?_)
        simp only [Act.put, List.setIfInBounds_toArray, List.set_cons_zero, List.set_cons_succ]
        refine AnyL.take (i := 13) (v := .pointer (some ⟨g, 0, none⟩)) (some 37) (fun _ => True) rfl (by kernel_rfl) (by kernel_rfl) (by kernel_rfl) (fun _ _ _ h => h) (fun _ _ _ _ _ => trivial) (fun l w' => Til.set (by decide) l w') (fun _ ho => by cases ho; exact Or.inl ⟨by rfl, fun w' _ => by go_simp⟩) hC hS (fun hC hS => ?_)
        simp only [Act.put, List.setIfInBounds_toArray, List.set_cons_zero, List.set_cons_succ]
        refine AnyL.nxt 14 (by kernel_rfl) hC (fun o ho K hK => ?_)
        cases ho
        go_simp
        refine hK.out _ _ (Til.late (by rfl)) (fun hC hS => ?_)
        clear hK K
        refine AnyL.done (by kernel_rfl) ?_ _
        clear hC hS
        go_wp2
        go_roundg (gk - 1)
        case measure => omega
        case rel =>
          have hc2 := (Chg.refl (fun b => b ≠ g) wq).setCell ⟨g, 0, none⟩ (.slice (some ⟨b, o, none⟩) (gk - 1) c) (fun _ h => h rfl)
          refine ⟨by first | rfl | trivial, by omega, fun i hi => ?_, ⟨(D1.blk.set 0 _).drew, SliceV.chg (R1.take (gk - 1) (by omega)) hc2.drew⟩, SliceV.chg R1 hc2.drew, (C1.trans hc2).drew⟩
          by_cases he : i = gk - 1
          · rw [he]; exact hq
          · exact hz i (by omega)
      · have hqq : (0 : Int) < (ds.getD (gk - 1) 0 : Nat) := by omega
        obtain ⟨dd, hdd⟩ : ∃ x, x = ds.getD (gk - 1) 0 := ⟨_, rfl⟩
        rw [← hdd] at k0 hq hqq
        have HDD := Lib.hid hdd
        have HQ := Lib.hid hq
        have hbq : (((dd : Nat) : Int) == 0) = false := by simp; omega
        clear hdd
        go_upto_region 1 with (fail)
        go_quiet (fail)
        have D1 : DecAt (wr.drewN nq) g (.slice (some ⟨b, o, none⟩) gk c) (ds.take gk) dp := D.old ((Old.refl wr).drewN nq)
        have C1 := C.drewN nq
        clear D R C x0 x1 f0 f1 k0
        generalize wr.drewN nq = wq at *
        have x0 : wq.cell? ⟨g, 0, none⟩ = some (.slice (some ⟨b, o, none⟩) gk c) := D1.blk.cell 0
        go_wp2
        go_ret
        refine ⟨.slice (some ⟨b, o, none⟩) gk c, gk, rfl, hj, hz, fun _ => by rw [← HDD.out]; exact HQ.out, ?_, C1⟩
        rw [if_neg h0]
        exact D1
end Go.Proofs.YthggnkmlnjlggaaGreatDoor
