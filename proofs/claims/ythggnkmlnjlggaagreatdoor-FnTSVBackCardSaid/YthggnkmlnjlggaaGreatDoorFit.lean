/-
  What looks at a value: its parts.
  Conditions: none.
-/
import Derived.Test.YthggnkmlnjlggaaGreatDoorToGo2
import Derived.Test.YthggnkmlnjlggaaGreatDoorLayValid
namespace Go.Proofs.YthggnkmlnjlggaaGreatDoor
open Go.RowKit

/-- The two tables of the text's decoder. -/
def Tabs (w : World) : Prop := Lib.Utf8Tabs (Tryz.lays196_ren.g 3) (Tryz.lays196_ren.g 4) w
theorem Tabs.lt {w : World} (h : Tabs w) : Tryz.lays196_ren.g 3 < w.heap.size ∧ Tryz.lays196_ren.g 4 < w.heap.size :=
  ⟨World.block_lt_of_cell? w _ (h.1 0 (by omega)), World.block_lt_of_cell? w _ (h.2 0 (by omega)).1⟩
theorem Tabs.chg {ok : Nat → Prop} {w w' : World} (h : Tabs w) (hc : Chg ok w w') (h3 : ok (Tryz.lays196_ren.g 3)) (h4 : ok (Tryz.lays196_ren.g 4)) : Tabs w' := by
  obtain ⟨l3, l4⟩ := h.lt
  have e3 := hc.block _ l3 h3
  have e4 := hc.block _ l4 h4
  exact ⟨fun c hc => (World.cell?_of_block (w := w) e3).trans (h.1 c hc), fun i hi => ⟨(World.cell?_of_block (w := w) e4).trans (h.2 i hi).1, (World.cell?_of_block (w := w) e4).trans (h.2 i hi).2⟩⟩
theorem Tabs.old {w w' : World} (h : Tabs w) (hc : Old w w') : Tabs w' := Tabs.chg h hc trivial trivial

/-- The looker's three numbers. -/
def Lk0 (w : World) (g : Nat) (p b : Int) (bad : Bool) : Prop := Blk w g #[.int .i64 p, .int .i64 b, .bool bad] 51
/-- The same, and the bytes so far are few where nothing was found bad. -/
def Lk (w : World) (g : Nat) (p b : Int) (bad : Bool) : Prop := Lk0 w g p b bad ∧ (bad = false → 0 ≤ b ∧ b ≤ 2000)
/-- A text that is right. -/
def TextOk (s : ByteArray) : Prop := Lib.validD s.data.toList = true ∧ s.size ≤ 2000
/-- All but the looker is as it was. -/
def But (g : Nat) (w w' : World) : Prop := Chg (fun k => k ≠ g) w w'
section
variable {g : Nat} {w w' : World} {p b : Int} {bad : Bool}
theorem Lk0.cells (h : Lk0 w g p b bad) : w.cell? ⟨g, 0, none⟩ = some (.int .i64 p) ∧ w.cell? ⟨g, 0 + 1, none⟩ = some (.int .i64 b) ∧ w.cell? ⟨g, 0 + 2, none⟩ = some (.bool bad) ∧ w.frozen? ⟨g, 0, none⟩ = false ∧ w.frozen? ⟨g, 0 + 1, none⟩ = false ∧ w.frozen? ⟨g, 0 + 2, none⟩ = false ∧ g < w.heap.size :=
  ⟨Blk.cell h 0, Blk.cell h 1, Blk.cell h 2, Blk.frozen h 0, Blk.frozen h 1, Blk.frozen h 2, Blk.lt h⟩
theorem Lk.cells (h : Lk w g p b bad) : w.cell? ⟨g, 0, none⟩ = some (.int .i64 p) ∧ w.cell? ⟨g, 0 + 1, none⟩ = some (.int .i64 b) ∧ w.cell? ⟨g, 0 + 2, none⟩ = some (.bool bad) ∧ w.frozen? ⟨g, 0, none⟩ = false ∧ w.frozen? ⟨g, 0 + 1, none⟩ = false ∧ w.frozen? ⟨g, 0 + 2, none⟩ = false ∧ g < w.heap.size := Lk0.cells h.1
theorem Lk.setP (h : Lk w g p b bad) (x : Int) : Lk (w.setCell ⟨g, 0, none⟩ (.int .i64 x)) g x b bad := ⟨Blk.set h.1 0 _, h.2⟩
theorem Lk0.setB (h : Lk0 w g p b bad) (x : Int) : Lk0 (w.setCell ⟨g, 0 + 1, none⟩ (.int .i64 x)) g p x bad := Blk.set h 1 _
theorem Lk0.setBad (h : Lk0 w g p b bad) (x : Bool) : Lk0 (w.setCell ⟨g, 0 + 2, none⟩ (.bool x)) g p b x := Blk.set h 2 _
theorem Lk.drew (h : Lk w g p b bad) : Lk w.drew g p b bad := ⟨Blk.drew h.1, h.2⟩
theorem Lk.alloc (h : Lk w g p b bad) (o : Obj) : Lk (w.alloc o) g p b bad := ⟨Blk.alloc h.1 o, h.2⟩
theorem But.refl (g : Nat) (w : World) : But g w w := Chg.refl _ _
theorem But.trans {a b c : World} (h : But g a b) (k : But g b c) : But g a c := Chg.trans h k
theorem But.set {a b : World} (h : But g a b) (j : Nat) (u : Value) : But g a (b.setCell ⟨g, j, none⟩ u) := Chg.setCell h _ _ fun _ h => h rfl
end

def Wanted0 (w : World) (g : Nat) (p b : Int) (bad : Bool) (e : Ending) (w' : World) : Prop := e = .returned (.tuple #[]) ∧ Lk0 w' g p b bad ∧ But g w w'

theorem want_raw (w : World) (g : Nat) (p b : Int) (bad ok nb : Bool) (hn : (bad || !ok) = nb) (h : Lk0 w g p b bad) : Calls Tryz.prog 36 #[.pointer (some ⟨g, 0, none⟩), .bool ok] w (Wanted0 w g p b nb) := by
  subst hn
  obtain ⟨c0, c1, c2, f0, f1, f2, hg⟩ := h.cells
  have H := Lib.hid h
  clear h
  cases bad
  · cases ok
    · go_enter Tryz.func36, Tryz.ntmps36
      go_wp2
      go_end0
      exact ⟨rfl, H.out.setBad _, (But.refl _ _).set _ _⟩
    · go_enter Tryz.func36, Tryz.ntmps36
      go_wp2
      go_end0
      exact ⟨rfl, H.out.setBad _, (But.refl _ _).set _ _⟩
  · go_enter Tryz.func36, Tryz.ntmps36
    go_wp2
    go_end0
    exact ⟨rfl, H.out.setBad _, (But.refl _ _).set _ _⟩

def Wanted (w : World) (g : Nat) (p b : Int) (bad : Bool) (e : Ending) (w' : World) : Prop := e = .returned (.tuple #[]) ∧ Lk w' g p b bad ∧ But g w w'
theorem want_any (w : World) (g : Nat) (p b : Int) (bad ok nb : Bool) (hn : (bad || !ok) = nb) (h : Lk w g p b bad) : Calls Tryz.prog 36 #[.pointer (some ⟨g, 0, none⟩), .bool ok] w (Wanted w g p b nb) :=
  (want_raw w g p b bad ok nb hn h.1).mono fun _ _ ⟨h1, h2, h3⟩ => ⟨h1, ⟨h2, fun hx => h.2 (by subst hx; simp at hn; exact hn.1)⟩, h3⟩

def Parted (w : World) (g : Nat) (p b : Int) (bad : Bool) (deep : Int) (e : Ending) (w' : World) : Prop :=
  ∃ bad', e = .returned (.bool (!bad')) ∧ Lk w' g (p + 1) b bad' ∧ But g w w' ∧ (bad' = false → bad = false ∧ p + 1 ≤ 400 ∧ b ≤ 2000 ∧ deep ≤ 60)

theorem part_any (w : World) (g : Nat) (p b : Int) (bad : Bool) (deep : Int) (h : Lk w g p b bad) (hp : 0 ≤ p ∧ p ≤ 400) : Calls Tryz.prog 35 #[.pointer (some ⟨g, 0, none⟩), .int .i64 deep] w (Parted w g p b bad deep) := by
  obtain ⟨c0, c1, c2, f0, f1, f2, hg⟩ := h.cells
  have H := Lib.hid h
  clear h
  obtain ⟨t1, h1⟩ : ∃ t, decide (p + 1 ≤ 400) = t := ⟨_, rfl⟩
  obtain ⟨t2, h2⟩ : ∃ t, decide (b ≤ 2000) = t := ⟨_, rfl⟩
  obtain ⟨t3, h3⟩ : ∃ t, decide (deep ≤ 60) = t := ⟨_, rfl⟩
  cases t1 <;> cases t2 <;> cases t3
  all_goals
    simp only [decide_eq_true_eq, decide_eq_false_iff_not, Int.not_le] at h1 h2 h3
    go_enter Tryz.func35, Tryz.ntmps35
    go_wp2_with (go_at_call 36; (first | refine (want_any _ _ _ _ _ _ true (by first | (simp; done) | (simp; exact .inr h3)) (H.out.setP _)).mono ?_ | refine (want_any _ _ _ _ _ _ bad (by simp) (H.out.setP _)).mono ?_); rintro e w2 ⟨rfl, hl, hb⟩; obtain ⟨d0, d1, d2, g0, g1, g2, hg2⟩ := hl.cells; have HL := Lib.hid hl; have HB := Lib.hid hb; clear hl hb)
    go_ret
    refine ⟨_, rfl, HL.out, ((But.refl _ _).set _ _).trans HB.out, fun hx => ?_⟩
    first | exact ⟨hx, h1, h2, h3⟩ | exact absurd hx (by simp)

def Looked (w : World) (g : Nat) (p : Int) (bad : Bool) (s : ByteArray) (e : Ending) (w' : World) : Prop :=
  e = .returned (.tuple #[]) ∧ ∃ b' bad', Lk w' g p b' bad' ∧ But g w w' ∧ (bad' = false → bad = false ∧ TextOk s)

set_option maxRecDepth 100000 in
theorem str_any (w : World) (g : Nat) (p b : Int) (bad : Bool) (s : ByteArray) (h : Lk w g p b bad) (hT : Tabs w) (g3 : Tryz.lays196_ren.g 3 ≠ g) (g4 : Tryz.lays196_ren.g 4 ≠ g) (hs : s.size ≤ 140737488355328) : Calls Tryz.prog 37 #[.pointer (some ⟨g, 0, none⟩), .string s] w (Looked w g p bad s) := by
  obtain ⟨c0, c1, c2, f0, f1, f2, hg⟩ := h.cells
  have H := Lib.hid h
  have HS := Lib.hid hs
  clear h hs
  obtain ⟨t1, h1⟩ : ∃ t, decide (wrap64 (b + (s.size : Int)) ≤ 2000) = t := ⟨_, rfl⟩
  have HB0 := Lib.hid (show (bad || false) = false → wrap64 (b + (s.size : Int)) ≤ 2000 → (0 ≤ wrap64 (b + (s.size : Int)) ∧ wrap64 (b + (s.size : Int)) ≤ 2000) ∧ s.size ≤ 2000 from fun hb hw => by
    obtain ⟨h5, h6⟩ := H.out.2 (by simpa using hb)
    have h7 : wrap64 (b + (s.size : Int)) = b + (s.size : Int) := IntWalk.wrap64_in _ (by have := HS.out; omega)
    rw [h7] at hw ⊢
    omega)
  cases t1
  all_goals simp only [decide_eq_true_eq, decide_eq_false_iff_not, Int.not_le] at h1
  · go_enter Tryz.func37, Tryz.ntmps37
    go_wp2_with (go_at_call 36; refine (want_raw _ _ _ _ _ _ true (by first | (simp; done) | (simp; exact .inr h1)) (H.out.1.setB _)).mono ?_; rintro e w2 ⟨rfl, hl, hb⟩)
    go_end0
    exact ⟨rfl, _, true, ⟨hl, fun h => by cases h⟩, ((But.refl _ _).set _ _).trans hb, fun h => by cases h⟩
  · have HT := Lib.hid hT
    clear hT
    obtain ⟨ans, hans⟩ : ∃ ans, Lib.validD s.data.toList = ans := ⟨_, rfl⟩
    go_enter Tryz.func37, Tryz.ntmps37
    go_wp2_with (first
      | (go_at_call 51; refine (Any.utf8_ValidString Tryz.lays196 s _ (by have := HS.out; omega) (Tabs.chg HT.out ((But.refl _ _).set 1 _) g3 g4)).mono ?_; rw [hans]; rintro e w2 ⟨rfl, hb⟩; have HB := Lib.hid (Old.of_below hb); have HL := Lib.hid ((Blk.old (H.out.1.setB _) HB.out : Lk0 _ _ _ _ _)); clear hb)
      | (go_at_call 36; refine (want_raw _ _ _ _ _ _ (bad || !ans) (by simp) HL.out).mono ?_; rintro e w3 ⟨rfl, hl, hb⟩))
    go_end0
    have hfin : ∀ h : (bad || !ans) = false, (0 ≤ wrap64 (b + (s.size : Int)) ∧ wrap64 (b + (s.size : Int)) ≤ 2000) ∧ bad = false ∧ TextOk s := fun h => by
      have h2 : bad = false ∧ ans = true := by simpa using h
      have h3 := HB0.out (by simpa using h2.1) h1
      exact ⟨h3.1, h2.1, by rw [hans]; exact h2.2, h3.2⟩
    exact ⟨rfl, _, _, ⟨hl, fun h => (hfin h).1⟩, (((But.refl _ _).set _ _).trans HB.out.chg).trans hb, fun h => (hfin h).2⟩
end Go.Proofs.YthggnkmlnjlggaaGreatDoor
