/-
  What looks at a value: its parts.
  Conditions: none.
-/
import Derived.Test.YtehfmaiogbehgaaDoorToGo2
import Derived.Test.YtehfmaiogbehgaaDoorLayValid
namespace Go.Proofs.YtehfmaiogbehgaaDoor
open Go.RowKit

/-- The two tables of the text's decoder. -/
def Tabs (w : World) : Prop := Lib.Utf8Tabs (Tryd.lays196_ren.g 3) (Tryd.lays196_ren.g 4) w
theorem Tabs.lt {w : World} (h : Tabs w) : Tryd.lays196_ren.g 3 < w.heap.size ∧ Tryd.lays196_ren.g 4 < w.heap.size :=
  ⟨World.block_lt_of_cell? w _ (h.1 0 (by omega)), World.block_lt_of_cell? w _ (h.2 0 (by omega)).1⟩
theorem Tabs.chg {ok : Nat → Prop} {w w' : World} (h : Tabs w) (hc : Chg ok w w') (h3 : ok (Tryd.lays196_ren.g 3)) (h4 : ok (Tryd.lays196_ren.g 4)) : Tabs w' := by
  obtain ⟨l3, l4⟩ := h.lt
  have e3 := hc.block _ l3 h3
  have e4 := hc.block _ l4 h4
  exact ⟨fun c hc => (World.cell?_of_block (w := w) e3).trans (h.1 c hc), fun i hi => ⟨(World.cell?_of_block (w := w) e4).trans (h.2 i hi).1, (World.cell?_of_block (w := w) e4).trans (h.2 i hi).2⟩⟩
theorem Tabs.old {w w' : World} (h : Tabs w) (hc : Old w w') : Tabs w' := Tabs.chg h hc trivial trivial

/-- The looker's three numbers. -/
def Lk (w : World) (g : Nat) (p b : Int) (bad : Bool) : Prop := Blk w g #[.int .i64 p, .int .i64 b, .bool bad] 44
/-- All but the looker is as it was. -/
def But (g : Nat) (w w' : World) : Prop := Chg (fun k => k ≠ g) w w'
section
variable {g : Nat} {w w' : World} {p b : Int} {bad : Bool}
theorem Lk.cells (h : Lk w g p b bad) : w.cell? ⟨g, 0, none⟩ = some (.int .i64 p) ∧ w.cell? ⟨g, 0 + 1, none⟩ = some (.int .i64 b) ∧ w.cell? ⟨g, 0 + 2, none⟩ = some (.bool bad) ∧ w.frozen? ⟨g, 0, none⟩ = false ∧ w.frozen? ⟨g, 0 + 1, none⟩ = false ∧ w.frozen? ⟨g, 0 + 2, none⟩ = false ∧ g < w.heap.size :=
  ⟨Blk.cell h 0, Blk.cell h 1, Blk.cell h 2, Blk.frozen h 0, Blk.frozen h 1, Blk.frozen h 2, Blk.lt h⟩
theorem Lk.setP (h : Lk w g p b bad) (x : Int) : Lk (w.setCell ⟨g, 0, none⟩ (.int .i64 x)) g x b bad := Blk.set h 0 _
theorem Lk.setB (h : Lk w g p b bad) (x : Int) : Lk (w.setCell ⟨g, 0 + 1, none⟩ (.int .i64 x)) g p x bad := Blk.set h 1 _
theorem Lk.setBad (h : Lk w g p b bad) (x : Bool) : Lk (w.setCell ⟨g, 0 + 2, none⟩ (.bool x)) g p b x := Blk.set h 2 _
theorem But.refl (g : Nat) (w : World) : But g w w := Chg.refl _ _
theorem But.trans {a b c : World} (h : But g a b) (k : But g b c) : But g a c := Chg.trans h k
theorem But.set {a b : World} (h : But g a b) (j : Nat) (u : Value) : But g a (b.setCell ⟨g, j, none⟩ u) := Chg.setCell h _ _ fun _ h => h rfl
end

def Wanted (w : World) (g : Nat) (p b : Int) (bad : Bool) (e : Ending) (w' : World) : Prop := e = .returned (.tuple #[]) ∧ Lk w' g p b bad ∧ But g w w'

theorem want_any (w : World) (g : Nat) (p b : Int) (bad ok nb : Bool) (hn : (bad || !ok) = nb) (h : Lk w g p b bad) : Calls Tryd.prog 21 #[.pointer (some ⟨g, 0, none⟩), .bool ok] w (Wanted w g p b nb) := by
  subst hn
  obtain ⟨c0, c1, c2, f0, f1, f2, hg⟩ := h.cells
  have H := Lib.hid h
  clear h
  cases bad
  · cases ok
    · go_enter Tryd.func21, Tryd.ntmps21
      go_wp2
      go_end0
      exact ⟨rfl, H.out.setBad _, (But.refl _ _).set _ _⟩
    · go_enter Tryd.func21, Tryd.ntmps21
      go_wp2
      go_end0
      exact ⟨rfl, H.out.setBad _, (But.refl _ _).set _ _⟩
  · go_enter Tryd.func21, Tryd.ntmps21
    go_wp2
    go_end0
    exact ⟨rfl, H.out.setBad _, (But.refl _ _).set _ _⟩

def Parted (w : World) (g : Nat) (p b : Int) (bad : Bool) (deep : Int) (e : Ending) (w' : World) : Prop :=
  ∃ bad', e = .returned (.bool (!bad')) ∧ Lk w' g (p + 1) b bad' ∧ But g w w' ∧ (bad' = false → bad = false ∧ p + 1 ≤ 400 ∧ b ≤ 2000 ∧ deep ≤ 60)

theorem part_any (w : World) (g : Nat) (p b : Int) (bad : Bool) (deep : Int) (h : Lk w g p b bad) (hp : 0 ≤ p ∧ p ≤ 400) : Calls Tryd.prog 20 #[.pointer (some ⟨g, 0, none⟩), .int .i64 deep] w (Parted w g p b bad deep) := by
  obtain ⟨c0, c1, c2, f0, f1, f2, hg⟩ := h.cells
  have H := Lib.hid h
  clear h
  obtain ⟨t1, h1⟩ : ∃ t, decide (p + 1 ≤ 400) = t := ⟨_, rfl⟩
  obtain ⟨t2, h2⟩ : ∃ t, decide (b ≤ 2000) = t := ⟨_, rfl⟩
  obtain ⟨t3, h3⟩ : ∃ t, decide (deep ≤ 60) = t := ⟨_, rfl⟩
  cases t1 <;> cases t2 <;> cases t3
  all_goals
    simp only [decide_eq_true_eq, decide_eq_false_iff_not, Int.not_le] at h1 h2 h3
    go_enter Tryd.func20, Tryd.ntmps20
    go_wp2_with (go_at_call 21; (first | refine (want_any _ _ _ _ _ _ true (by first | (simp; done) | (simp; exact .inr h3)) (H.out.setP _)).mono ?_ | refine (want_any _ _ _ _ _ _ bad (by simp) (H.out.setP _)).mono ?_); rintro e w2 ⟨rfl, hl, hb⟩; obtain ⟨d0, d1, d2, g0, g1, g2, hg2⟩ := hl.cells; have HL := Lib.hid hl; have HB := Lib.hid hb; clear hl hb)
    go_ret
    refine ⟨_, rfl, HL.out, ((But.refl _ _).set _ _).trans HB.out, fun hx => ?_⟩
    first | exact ⟨hx, h1, h2, h3⟩ | exact absurd hx (by simp)

def Looked (w : World) (g : Nat) (p : Int) (bad : Bool) (s : ByteArray) (e : Ending) (w' : World) : Prop :=
  e = .returned (.tuple #[]) ∧ ∃ b' bad', Lk w' g p b' bad' ∧ But g w w' ∧ (bad' = false → bad = false ∧ Lib.validD s.data.toList = true)

set_option maxRecDepth 100000 in
theorem str_any (w : World) (g : Nat) (p b : Int) (bad : Bool) (s : ByteArray) (h : Lk w g p b bad) (hT : Tabs w) (g3 : Tryd.lays196_ren.g 3 ≠ g) (g4 : Tryd.lays196_ren.g 4 ≠ g) (hs : s.size ≤ 9223372036854775807) : Calls Tryd.prog 22 #[.pointer (some ⟨g, 0, none⟩), .string s] w (Looked w g p bad s) := by
  obtain ⟨c0, c1, c2, f0, f1, f2, hg⟩ := h.cells
  have H := Lib.hid h
  have HS := Lib.hid hs
  clear h hs
  obtain ⟨t1, h1⟩ : ∃ t, decide (wrap64 (b + (s.size : Int)) ≤ 2000) = t := ⟨_, rfl⟩
  cases t1
  all_goals simp only [decide_eq_true_eq, decide_eq_false_iff_not, Int.not_le] at h1
  · go_enter Tryd.func22, Tryd.ntmps22
    go_wp2_with (go_at_call 21; refine (want_any _ _ _ _ _ _ true (by first | (simp; done) | (simp; exact .inr h1)) (H.out.setB _)).mono ?_; rintro e w2 ⟨rfl, hl, hb⟩)
    go_end0
    exact ⟨rfl, _, true, hl, ((But.refl _ _).set _ _).trans hb, fun h => by cases h⟩
  · have HT := Lib.hid hT
    clear hT
    obtain ⟨ans, hans⟩ : ∃ ans, Lib.validD s.data.toList = ans := ⟨_, rfl⟩
    go_enter Tryd.func22, Tryd.ntmps22
    go_wp2_with (first
      | (go_at_call 27; refine (Any.utf8_ValidString Tryd.lays196 s _ HS.out (Tabs.chg HT.out ((But.refl _ _).set 1 _) g3 g4)).mono ?_; rw [hans]; rintro e w2 ⟨rfl, hb⟩; have HB := Lib.hid (Old.of_below hb); have HL := Lib.hid ((Blk.old (H.out.setB _) HB.out : Lk _ _ _ _ _)); clear hb)
      | (go_at_call 21; refine (want_any _ _ _ _ _ _ (bad || !ans) (by simp) HL.out).mono ?_; rintro e w3 ⟨rfl, hl, hb⟩))
    go_end0
    refine ⟨rfl, _, _, hl, (((But.refl _ _).set _ _).trans HB.out.chg).trans hb, fun h => ?_⟩
    rw [hans]
    simpa using h
end Go.Proofs.YtehfmaiogbehgaaDoor
