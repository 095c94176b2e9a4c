/-
  What the methods of a stack do.
  Conditions: the places of the top and of the limit lie within the row.
-/
import Derived.Test.YtaehbephmjolcaaStkMem
namespace Go.Proofs.Ytaehbephmjolcaa
open Go.RowKit

def NewStk (w : World) (e : Ending) (w' : World) : Prop := e = .returned (.pointer (some ⟨w.heap.size, 0, none⟩)) ∧ Stk w' w.heap.size w.heap.size (.slice none 0 0) [] (-1) (-1) ∧ Chg (fun _ => True) w w'
theorem new_any (w : World) : Calls Try.prog 16 #[] w (NewStk w) := by
  go_enter Try.func16, Try.ntmps16
  go_wp2
  go_ret
  exact ⟨rfl, ⟨Nat.le_refl _, Blk.new _ _ _, World.ownsRow_nil _ _ _ _⟩, (Chg.refl _ _).alloc _⟩
theorem znew_any (w : World) : Calls Try.prog 8 #[] w (NewStk w) := by
  go_enter Try.func8, Try.ntmps8
  go_wp2_with (go_at_call 16; refine (new_any _).mono ?_; rintro e w' ⟨rfl, hq⟩)
  go_ret
  exact ⟨rfl, hq⟩

theorem empty_any (w : World) (base g : Nat) (v : Value) (ds : List (Int × Int)) (i l : Int) (h : Stk w base g v ds i l) :
    Calls Try.prog 17 #[.pointer (some ⟨g, 0, none⟩)] w fun e w' => e = .returned (.bool (decide (i < 0))) ∧ w = w' := by
  have h1 : w.cell? ⟨g, 0 + 1, none⟩ = some (.int .i64 i) := h.head.cell 1
  clear h
  go_enter Try.func17, Try.ntmps17
  go_wp2
  go_ret
  exact ⟨rfl, rfl⟩
theorem zempty_any (w : World) (base g : Nat) (v : Value) (ds : List (Int × Int)) (i l : Int) (h : Stk w base g v ds i l) :
    Calls Try.prog 9 #[.pointer (some ⟨g, 0, none⟩)] w fun e w' => e = .returned (.bool (decide (i < 0))) ∧ w = w' := by
  go_enter Try.func9, Try.ntmps9
  go_wp2_with (go_at_call 17; refine (empty_any _ _ _ _ _ _ _ h).mono ?_; rintro e w' ⟨rfl, rfl⟩)
  go_ret
  exact ⟨rfl, rfl⟩


theorem Stk.cells {w : World} {base g : Nat} {v : Value} {ds : List (Int × Int)} {i l : Int} (h : Stk w base g v ds i l) (h0 : 0 ≤ i) (h1 : i < ds.length) :
    ∃ b c, v = .slice (some ⟨b, 0, none⟩) ds.length c ∧ w.cell? ⟨b, i.toNat * 2, none⟩ = some (.iface 3 (.int .i64 (topOf ds i).1)) ∧ w.cell? ⟨b, i.toNat * 2 + 1, none⟩ = some (.int .i64 (topOf ds i).2) := by
  obtain ⟨b, c, rfl, _, _⟩ := h.row.form (by omega)
  have hr := h.row
  have hi : i.toNat < ds.length := by omega
  have hg := rowOf_get ds i.toNat hi
  have ht : topOf ds i = ds[i.toNat] := by simp [topOf, hi]
  refine ⟨b, c, rfl, ?_, ?_⟩
  · rw [hr.cellAt _ (by omega), hg.1, ht]
  · rw [hr.cellAt _ (by omega), hg.2, ht]

theorem top_any (w : World) (base g : Nat) (v : Value) (ds : List (Int × Int)) (i l : Int) (h : Stk w base g v ds i l) (h0 : 0 ≤ i) (h1 : i < ds.length) (hm : ds.length ≤ 1000) :
    Calls Try.prog 20 #[.pointer (some ⟨g, 0, none⟩)] w fun e w' => e = .returned (.iface 3 (.int .i64 (topOf ds i).1)) ∧ Chg (fun _ => True) w w' := by
  obtain ⟨b, c, rfl, hc, hc'⟩ := h.cells h0 h1
  have k0 : w.cell? ⟨g, 0, none⟩ = some (.slice (some ⟨b, 0, none⟩) ds.length c) := h.head.cell 0
  have k1 : w.cell? ⟨g, 0 + 1, none⟩ = some (.int .i64 i) := h.head.cell 1
  have hb : i.toNat < ds.length := by omega
  clear h
  go_enter Try.func20, Try.ntmps20
  go_wp2
  go_quiet (fail)
  go_wp2
  go_ret
  exact ⟨rfl, (Chg.refl _ _).drewN _⟩

theorem ztop_any (w : World) (base g : Nat) (v : Value) (ds : List (Int × Int)) (i l : Int) (h : Stk w base g v ds i l) (h0 : 0 ≤ i) (h1 : i < ds.length) (hm : ds.length ≤ 1000) :
    Calls Try.prog 12 #[.pointer (some ⟨g, 0, none⟩)] w fun e w' => e = .returned (.iface 3 (.int .i64 (topOf ds i).1)) ∧ Chg (fun _ => True) w w' := by
  go_enter Try.func12, Try.ntmps12
  go_wp2_with (go_at_call 20; refine (top_any _ _ _ _ _ _ _ h h0 h1 hm).mono ?_; rintro e w' ⟨rfl, hq⟩)
  go_ret
  exact ⟨rfl, hq⟩

theorem pop_any (w : World) (base g : Nat) (v : Value) (ds : List (Int × Int)) (i l : Int) (h : Stk w base g v ds i l) (h0 : 0 ≤ i) (h1 : i < ds.length) (hm : ds.length ≤ 1000) :
    Calls Try.prog 19 #[.pointer (some ⟨g, 0, none⟩)] w fun e w' => e = .returned (.iface 3 (.int .i64 (topOf ds i).1)) ∧ Stk w' base g v ds (topOf ds i).2 l ∧ Chg (fun k => k ≠ g) w w' := by
  have H := Lib.hid h
  obtain ⟨b, c, rfl, hc, hc'⟩ := h.cells h0 h1
  have k0 : w.cell? ⟨g, 0, none⟩ = some (.slice (some ⟨b, 0, none⟩) ds.length c) := h.head.cell 0
  have k1 : w.cell? ⟨g, 0 + 1, none⟩ = some (.int .i64 i) := h.head.cell 1
  have f1 : w.frozen? ⟨g, 0 + 1, none⟩ = false := h.head.frozen 1
  have hb : i.toNat < ds.length := by omega
  have hg : g < w.heap.size := h.head.lt
  have hbl : b < w.heap.size := World.block_lt_of_cell? w _ hc
  clear h
  go_enter Try.func19, Try.ntmps19
  go_wp2
  go_region
  all_goals go_wp2
  go_ret
  have hC := fun o => (((Chg.refl (fun k => k ≠ g) w).setCell ⟨g, 1, none⟩ (.int .i64 (topOf ds i).2) (fun _ h => h rfl)).alloc o).drew
  refine ⟨rfl, ⟨H.out.at_, ((H.out.head.set 1 _).alloc _).drew, own_chg H.out.row (hC _) (fun k hk => ?_)⟩, hC _⟩
  rintro rfl
  exact H.out.sep hk.symm
theorem zpop_any (w : World) (base g : Nat) (v : Value) (ds : List (Int × Int)) (i l : Int) (h : Stk w base g v ds i l) (h0 : 0 ≤ i) (h1 : i < ds.length) (hm : ds.length ≤ 1000) :
    Calls Try.prog 11 #[.pointer (some ⟨g, 0, none⟩)] w fun e w' => e = .returned (.iface 3 (.int .i64 (topOf ds i).1)) ∧ Stk w' base g v ds (topOf ds i).2 l ∧ Chg (fun k => k ≠ g) w w' := by
  go_enter Try.func11, Try.ntmps11
  go_wp2_with (go_at_call 19; refine (pop_any _ _ _ _ _ _ _ h h0 h1 hm).mono ?_; rintro e w' ⟨rfl, hq⟩)
  go_ret
  exact ⟨rfl, hq⟩

theorem restore_any (w : World) (base g : Nat) (v : Value) (ds : List (Int × Int)) (i l a b : Int) (h : Stk w base g v ds i l) :
    Calls Try.prog 22 #[.pointer (some ⟨g, 0, none⟩), .int .i64 a, .int .i64 b] w fun e w' => e = .returned (.tuple #[]) ∧ Stk w' base g v ds a b ∧ Chg (fun k => k ≠ g) w w' := by
  have H := Lib.hid h
  have k1 : w.cell? ⟨g, 0 + 1, none⟩ = some (.int .i64 i) := h.head.cell 1
  have k2 : w.cell? ⟨g, 0 + 2, none⟩ = some (.int .i64 l) := h.head.cell 2
  have f1 : w.frozen? ⟨g, 0 + 1, none⟩ = false := h.head.frozen 1
  have f2 : w.frozen? ⟨g, 0 + 2, none⟩ = false := h.head.frozen 2
  have hg : g < w.heap.size := h.head.lt
  clear h
  go_enter Try.func22, Try.ntmps22
  go_wp2
  go_end0
  have hC := (((Chg.refl (fun k => k ≠ g) w).setCell ⟨g, 1, none⟩ (.int .i64 a) (fun _ h => h rfl))).setCell ⟨g, 2, none⟩ (.int .i64 b) (fun _ h => h rfl)
  refine ⟨rfl, ⟨H.out.at_, (H.out.head.set 1 _).set 2 _, own_chg H.out.row hC (fun k hk => ?_)⟩, hC⟩
  rintro rfl
  exact H.out.sep hk.symm
theorem zrestore_any (w : World) (base g : Nat) (v : Value) (ds : List (Int × Int)) (i l a b : Int) (h : Stk w base g v ds i l) :
    Calls Try.prog 14 #[.pointer (some ⟨g, 0, none⟩), .int .i64 a, .int .i64 b] w fun e w' => e = .returned (.tuple #[]) ∧ Stk w' base g v ds a b ∧ Chg (fun k => k ≠ g) w w' := by
  go_enter Try.func14, Try.ntmps14
  go_wp2_with (go_at_call 22; refine (restore_any _ _ _ _ _ _ _ _ _ h).mono ?_; rintro e w' ⟨rfl, hq⟩)
  go_end0
  exact ⟨rfl, hq⟩

theorem save_any (w : World) (base g : Nat) (v : Value) (ds : List (Int × Int)) (i l : Int) (h : Stk w base g v ds i l) :
    Calls Try.prog 21 #[.pointer (some ⟨g, 0, none⟩)] w fun e w' => e = .returned (.tuple #[.int .i64 i, .int .i64 l]) ∧ Stk w' base g v ds i (max i l) ∧ Chg (fun k => k ≠ g) w w' := by
  have H := Lib.hid h
  have k1 : w.cell? ⟨g, 0 + 1, none⟩ = some (.int .i64 i) := h.head.cell 1
  have k2 : w.cell? ⟨g, 0 + 2, none⟩ = some (.int .i64 l) := h.head.cell 2
  have f2 : w.frozen? ⟨g, 0 + 2, none⟩ = false := h.head.frozen 2
  have hg : g < w.heap.size := h.head.lt
  clear h
  go_enter Try.func21, Try.ntmps21
  go_wp2
  go_quiet (fail)
  go_wp2
  go_quiet (fail)
  go_wp2
  all_goals go_ret2
  · have hlt : l < i := by assumption
    rw [show max i l = i by omega]
    have hC := fun n => (((Chg.refl (fun k => k ≠ g) w).drewN n).setCell ⟨g, 2, none⟩ (.int .i64 i) (fun _ h => h rfl))
    refine ⟨rfl, ⟨H.out.at_, (H.out.head.drewN _).set 2 _, own_chg H.out.row (hC _) (fun k hk => ?_)⟩, hC _⟩
    rintro rfl
    exact H.out.sep hk.symm
  · have hlt : i ≤ l := by assumption
    rw [show max i l = l by omega]
    have hC := fun n m => (((Chg.refl (fun k => k ≠ g) w).drewN n).drewN m)
    refine ⟨rfl, ⟨H.out.at_, H.out.head, own_chg H.out.row (hC _ _) (fun k hk => ?_)⟩, hC _ _⟩
    rintro rfl
    exact H.out.sep hk.symm
theorem zsave_any (w : World) (base g : Nat) (v : Value) (ds : List (Int × Int)) (i l : Int) (h : Stk w base g v ds i l) :
    Calls Try.prog 13 #[.pointer (some ⟨g, 0, none⟩)] w fun e w' => e = .returned (.tuple #[.int .i64 i, .int .i64 l]) ∧ Stk w' base g v ds i (max i l) ∧ Chg (fun k => k ≠ g) w w' := by
  go_enter Try.func13, Try.ntmps13
  go_wp2_with (go_at_call 21; refine (save_any _ _ _ _ _ _ _ h).mono ?_; rintro e w' ⟨rfl, hq⟩)
  go_ret2
  exact ⟨rfl, hq⟩



def Pushed (base g : Nat) (v : Value) (ds : List (Int × Int)) (p l : Int) (w : World) (e : Ending) (w' : World) : Prop :=
  e = .returned (.tuple #[]) ∧ ∃ v', Stk w' base g v' ds p l ∧ Chg (fun k => k ≠ g ∧ some k ≠ v.ownBlock) w w'

theorem push_end {w : World} {base g b c : Nat} {ds : List (Int × Int)} {i l x p : Int} (o : Obj) (k : Nat) (h : Stk w base g (.slice (some ⟨b, 0, none⟩) ds.length c) ds i l) (hp : p < ds.length) (hp0 : 0 ≤ p) :
    Pushed base g (.slice (some ⟨b, 0, none⟩) ds.length c) (ds.set p.toNat (x, i)) p l w (.returned (.tuple #[]))
      (((((w.setCell ⟨g, 1, none⟩ (.int .i64 p)).alloc o).drewN k).setCell ⟨b, p.toNat * 2, none⟩ (.iface 3 (.int .i64 x))).setCell ⟨b, p.toNat * 2 + 1, none⟩ (.int .i64 i)) := by
  have hne : g ≠ b := fun e => h.sep (by rw [e]; rfl)
  have hC : Chg (fun k => k ≠ g) w (((w.setCell ⟨g, 1, none⟩ (.int .i64 p)).alloc o).drewN k) := (((Chg.refl _ w).setCell ⟨g, 1, none⟩ _ (fun _ h => h rfl)).alloc o).drewN k
  have hr := own_chg h.row hC (fun k hk => by rintro rfl; exact h.sep hk.symm)
  have h1 := (hr.stored (p.toNat * 2) (.iface 3 (.int .i64 x))).1
  have h2 := (h1.stored (p.toNat * 2 + 1) (.int .i64 i)).1
  refine ⟨rfl, .slice (some ⟨b, 0, none⟩) ds.length c, ⟨h.at_, ?_, ?_⟩, ?_⟩
  · exact (((((h.head.set 1 _).alloc o).drewN k).far hne _).far hne _)
  · rw [rowOf_set ds _ _ (by omega), List.length_set]
    exact h2
  · exact ((hC.mono (fun k _ hk => hk.1)).setCell _ _ (fun _ hk => hk.2 rfl)).setCell _ _ (fun _ hk => hk.2 rfl)

set_option maxHeartbeats 1000000 in
theorem push_set (w : World) (base g : Nat) (v : Value) (ds : List (Int × Int)) (i l x m : Int) (h : Stk w base g v ds i l) (hm : ds.length ≤ 1000) (hil : (l < i ∧ m = i) ∨ (i < l ∧ m = l) ∨ (i = l ∧ m = l)) (hp : m + 1 < ds.length) (hp0 : 0 ≤ m + 1) :
    Calls Try.prog 18 #[.pointer (some ⟨g, 0, none⟩), .iface 3 (.int .i64 x)] w (Pushed base g v (ds.set (m + 1).toNat (x, i)) (m + 1) l w) := by
  have H := Lib.hid h
  obtain ⟨b, c, rfl, hbb, _⟩ := h.row.form (by omega)
  have k0 : w.cell? ⟨g, 0, none⟩ = some (.slice (some ⟨b, 0, none⟩) ds.length c) := h.head.cell 0
  have k1 : w.cell? ⟨g, 0 + 1, none⟩ = some (.int .i64 i) := h.head.cell 1
  have k2 : w.cell? ⟨g, 0 + 2, none⟩ = some (.int .i64 l) := h.head.cell 2
  have f0 : w.frozen? ⟨g, 0, none⟩ = false := h.head.frozen 0
  have f1 : w.frozen? ⟨g, 0 + 1, none⟩ = false := h.head.frozen 1
  have hg : g < w.heap.size := h.head.lt
  have hmn : (m + 1).toNat < ds.length := by omega
  obtain ⟨y0, y1, d0, d1⟩ : ∃ y0 y1, w.cell? ⟨b, (m + 1).toNat * 2, none⟩ = some y0 ∧ w.cell? ⟨b, (m + 1).toNat * 2 + 1, none⟩ = some y1 := by
    have hget := rowOf_get ds (m + 1).toNat hmn
    exact ⟨_, _, by rw [h.row.cellAt _ (by omega), hget.1], by rw [h.row.cellAt _ (by omega), hget.2]⟩
  have e0 : w.frozen? ⟨b, (m + 1).toNat * 2, none⟩ = false := h.row.frozenAt _
  have e1 : w.frozen? ⟨b, (m + 1).toNat * 2 + 1, none⟩ = false := h.row.frozenAt _
  have hne : b ≠ g := fun e => h.sep (by rw [e]; rfl)
  have hbl : b < w.heap.size := World.block_lt_of_cell? w _ d0
  clear h
  rcases hil with ⟨hlt, rfl⟩ | ⟨hle, rfl⟩ | ⟨rfl, rfl⟩
  all_goals
    go_enter Try.func18, Try.ntmps18
    go_wp2
    go_region
    go_wp2
    go_quiet (fail)
    go_wp2
    go_region
    go_wp2
    go_end0
    exact push_end _ _ H.out hp hp0

/-! ### The push that appends -/
section
variable {w : World} {base g c : Nat} {A : Option Addr} {ds : List (Int × Int)} {i l : Int} (h : Stk w base g (.slice A ds.length c) ds i l) (p x : Int) (o o' : Obj) (k : Nat)
theorem app_chg : Chg (fun k => k ≠ g) w ((((w.setCell ⟨g, 1, none⟩ (.int .i64 p)).alloc o).drewN k).alloc o') := ((((Chg.refl _ w).setCell ⟨g, 1, none⟩ _ (fun _ h => h rfl)).alloc o).drewN k).alloc o'
include h
theorem app_own : ((((w.setCell ⟨g, 1, none⟩ (.int .i64 p)).alloc o).drewN k).alloc o').ownsRow base 53 2 (.slice A ds.length c) ds.length (rowOf ds) :=
  own_chg h.row (app_chg p o o' k) (fun k hk => by rintro rfl; exact h.sep hk.symm)
theorem app_head : Blk ((((w.setCell ⟨g, 1, none⟩ (.int .i64 p)).alloc o).drewN k).alloc o') g #[.slice A ds.length c, .int .i64 p, .int .i64 l] 51 := (((h.head.set 1 _).alloc o).drewN k).alloc o'
theorem app_after {w1 : World} (hg : ((((w.setCell ⟨g, 1, none⟩ (.int .i64 p)).alloc o).drewN k).alloc o').grownBy w1 (Value.slice A ds.length c).ownBlock) : Blk w1 g #[.slice A ds.length c, .int .i64 p, .int .i64 l] 51 :=
  (app_head h p o o' k).chg ((Chg.refl (fun k => k = g) _).grown hg (fun k _ hk => by rw [hk]; exact h.sep)) rfl
theorem app_end {w1 : World} (hg : ((((w.setCell ⟨g, 1, none⟩ (.int .i64 p)).alloc o).drewN k).alloc o').grownBy w1 (Value.slice A ds.length c).ownBlock)
    {v' : Value} (hown : w1.ownsRow base 53 2 v' (ds.length + 1) (rowOf ds ++ [.iface 3 (.int .i64 x), .int .i64 i])) :
    Pushed base g (.slice A ds.length c) (ds ++ [(x, i)]) p l w (.returned (.tuple #[])) (w1.setCell ⟨g, 0, none⟩ v') := by
  have hb := app_after h p o o' k hg
  have hs : some g ≠ v'.ownBlock := own_ne hown hb (by decide)
  have hC : Chg (fun k => k ≠ g) w1 (w1.setCell ⟨g, 0, none⟩ v') := (Chg.refl _ w1).setCell ⟨g, 0, none⟩ _ (fun _ h => h rfl)
  refine ⟨rfl, v', ⟨h.at_, hb.set 0 _, ?_⟩, ?_⟩
  · rw [List.length_append, rowOf_append]
    exact own_chg hown hC (fun k hk => by rintro rfl; exact hs hk.symm)
  · refine (((app_chg p o o' k).mono (fun k _ hk => hk.1)).grown hg (fun k _ hk => hk.2)).trans (hC.mono (fun k _ hk => hk.1))
end
theorem one_two {a b : Value} (ha : a.oneCell' = true) (hb : b.oneCell' = true) : ∀ u ∈ [a, b], u.oneCell' = true := by
  intro u hu
  simp only [List.mem_cons, List.not_mem_nil, or_false] at hu
  rcases hu with rfl | rfl
  · exact ha
  · exact hb
theorem news_two {W : World} {B : Nat} (hB : W.heap.size = B) (a b : Value) (t : TypeId) : ∀ j u, [a, b][j]? = some u → (W.alloc (.cells #[a, b] t)).cell? ((⟨B, 0, none⟩ : Addr).add j) = some u := by
  subst hB
  exact cell_two_new W a b t

set_option maxHeartbeats 1000000 in
theorem push_app (w : World) (base g : Nat) (v : Value) (ds : List (Int × Int)) (i l x m : Int) (h : Stk w base g v ds i l) (hbs : base ≤ w.heap.size) (hm : ds.length ≤ 1000) (hil : (l < i ∧ m = i) ∨ (i < l ∧ m = l) ∨ (i = l ∧ m = l)) (hp : ds.length = m + 1) :
    Calls Try.prog 18 #[.pointer (some ⟨g, 0, none⟩), .iface 3 (.int .i64 x)] w (Pushed base g v (ds ++ [(x, i)]) (m + 1) l w) := by
  have H := Lib.hid h
  have HP := Lib.hid hp
  have hp1 : ¬ m + 1 < ds.length := by omega
  have hm0 : -1 ≤ m := by omega
  have hm1 : m ≤ 1000 := by omega
  clear hp
  obtain ⟨A, c, rfl⟩ := own_len h.row
  have k0 : w.cell? ⟨g, 0, none⟩ = some (.slice A ds.length c) := h.head.cell 0
  have k1 : w.cell? ⟨g, 0 + 1, none⟩ = some (.int .i64 i) := h.head.cell 1
  have k2 : w.cell? ⟨g, 0 + 2, none⟩ = some (.int .i64 l) := h.head.cell 2
  have f0 : w.frozen? ⟨g, 0, none⟩ = false := h.head.frozen 0
  have f1 : w.frozen? ⟨g, 0 + 1, none⟩ = false := h.head.frozen 1
  have hg : g < w.heap.size := h.head.lt
  clear h
  obtain ⟨i0, hi, hz0, hz1, hz2⟩ := info_parts Try.info53
  rcases hil with ⟨hlt, rfl⟩ | ⟨hle, rfl⟩ | ⟨rfl, rfl⟩
  all_goals
    go_enter Try.func18, Try.ntmps18
    go_wp2
    go_region
    go_wp2
    go_quiet (fail)
    go_wp2
  all_goals
    go_region_law (refine step_append_lies _ rfl (.tmp 48) (.tmp 50) 49 rfl base 53 i0 _ 2 24 Try.underlying49 hi hz0 hz1 hz2 rfl (by decide) _ _ _ rfl (app_own H.out _ _ _ _) ⟨w.heap.size + 1, 0, none⟩ 1 1 [.iface 3 (.int .i64 x), .int .i64 _] rfl rfl (news_two (by simp) _ _ _) (one_two rfl rfl) (by decide) (by unfold maxLen; omega) (by omega) (by simp; omega) _ rfl ?_; intro g' cap w1 hown hgrow hor hlt1; have kb := app_after H.out _ _ _ _ hgrow; have kc0 : w1.cell? ⟨g, 0, none⟩ = _ := kb.cell 0; have kf0 : w1.frozen? ⟨g, 0, none⟩ = false := kb.frozen 0)
  all_goals
    go_wp2
    go_end0
    exact app_end H.out _ _ _ _ _ (by assumption) (by assumption)

theorem push_any (w : World) (base g : Nat) (v : Value) (ds : List (Int × Int)) (i l x : Int) (h : Stk w base g v ds i l) (hbs : base ≤ w.heap.size) (hm : ds.length ≤ 1000) (h0 : -1 ≤ i) (h1 : i < ds.length) (h2 : -1 ≤ l) (h3 : l < ds.length) :
    Calls Try.prog 18 #[.pointer (some ⟨g, 0, none⟩), .iface 3 (.int .i64 x)] w (Pushed base g v (pushD ds i l x) (max i l + 1) l w) := by
  have hil : (l < i ∧ max i l = i) ∨ (i < l ∧ max i l = l) ∨ (i = l ∧ max i l = l) := by omega
  unfold pushD
  split
  · exact push_set w base g v ds i l x _ h hm hil (by assumption) (by omega)
  · exact push_app w base g v ds i l x _ h hbs hm hil (by omega)
theorem zpush_any (w : World) (base g : Nat) (v : Value) (ds : List (Int × Int)) (i l x : Int) (h : Stk w base g v ds i l) (hbs : base ≤ w.heap.size) (hm : ds.length ≤ 1000) (h0 : -1 ≤ i) (h1 : i < ds.length) (h2 : -1 ≤ l) (h3 : l < ds.length) :
    Calls Try.prog 10 #[.pointer (some ⟨g, 0, none⟩), .iface 3 (.int .i64 x)] w (Pushed base g v (pushD ds i l x) (max i l + 1) l w) := by
  go_enter Try.func10, Try.ntmps10
  go_wp2_with (go_at_call 18; refine (push_any _ _ _ _ _ _ _ _ h hbs hm h0 h1 h2 h3).mono ?_; rintro e w' ⟨rfl, hq⟩)
  go_end0
  exact ⟨rfl, hq⟩

end Go.Proofs.Ytaehbephmjolcaa
