/-
  The three iterators over given values: one step each.
  Conditions: none.
-/
import Derived.Test.YtehfmaiogbehgaaDoorRowV
namespace Go.Proofs.YtehfmaiogbehgaaDoor
open Go.RowKit

theorem next_empty (w : World) : Calls Tryd.prog 77 #[.agg #[]] w fun e w' => e = .returned (.tuple #[.nilIface, .bool false]) ∧ Old w w' := by
  go_enter Tryd.func77, Tryd.ntmps77
  go_wp2
  go_ret2
  exact ⟨rfl, (Old.refl w).alloc _⟩
set_option maxRecDepth 100000 in
theorem next_unit_no (w : World) (g : Nat) (x : Value) (hb : Blk w g #[x, .bool true] 59) : Calls Tryd.prog 78 #[.pointer (some ⟨g, 0, none⟩)] w fun e w' => e = .returned (.tuple #[.nilIface, .bool false]) ∧ w' = w := by
  have x1 : w.cell? ⟨g, 1, none⟩ = some (.bool true) := hb.cell 1
  clear hb
  go_enter Tryd.func78, Tryd.ntmps78
  go_wp2
  go_ret2
  exact ⟨rfl, rfl⟩
set_option maxRecDepth 100000 in
theorem next_unit (w : World) (g : Nat) (x : Value) (hx : x = .nilIface ∨ ∃ t v, x = .iface t v) (hb : Blk w g #[x, .bool false] 59) : Calls Tryd.prog 78 #[.pointer (some ⟨g, 0, none⟩)] w fun e w' => e = .returned (.tuple #[x, .bool true]) ∧ w' = w.setCell ⟨g, 1, none⟩ (.bool true) := by
  have x0 : w.cell? ⟨g, 0, none⟩ = some x := hb.cell 0
  have x1 : w.cell? ⟨g, 1, none⟩ = some (.bool false) := hb.cell 1
  have f1 := hb.frozen 1
  clear hb
  rcases hx with rfl | ⟨t, v, rfl⟩
  all_goals
    go_enter Tryd.func78, Tryd.ntmps78
    go_wp2
    go_ret2
    exact ⟨rfl, rfl⟩
set_option maxRecDepth 100000 in
theorem next_slice_no (w : World) (g : Nat) (A : Option Addr) (c : Nat) (hb : Blk w g #[.slice A 0 c] 60) : Calls Tryd.prog 79 #[.pointer (some ⟨g, 0, none⟩)] w fun e w' => e = .returned (.tuple #[.nilIface, .bool false]) ∧ w' = w := by
  have x0 : w.cell? ⟨g, 0, none⟩ = some (.slice A 0 c) := hb.cell 0
  clear hb
  go_enter Tryd.func79, Tryd.ntmps79
  go_wp2
  go_ret2
  exact ⟨rfl, rfl⟩
set_option maxRecDepth 100000 in
theorem next_slice (w : World) (g : Nat) (b o n c : Nat) (x : Value) (hx : x = .nilIface ∨ ∃ t v, x = .iface t v) (hn : n < c) (he : w.cell? ⟨b, o, none⟩ = some x) (hb : Blk w g #[.slice (some ⟨b, o, none⟩) (n + 1) c] 60) :
    Calls Tryd.prog 79 #[.pointer (some ⟨g, 0, none⟩)] w fun e w' => e = .returned (.tuple #[x, .bool true]) ∧ w' = w.setCell ⟨g, 0, none⟩ (.slice (some ⟨b, if c = 1 then o else o + 1, none⟩) n (c - 1)) := by
  have x0 : w.cell? ⟨g, 0, none⟩ = some (.slice (some ⟨b, o, none⟩) (n + 1) c) := hb.cell 0
  have f0 := hb.frozen 0
  clear hb
  rcases hx with rfl | ⟨t, v, rfl⟩
  all_goals
    by_cases h1 : c = 1
    · subst h1
      go_enter Tryd.func79, Tryd.ntmps79
      go_wp2
      go_ret2
      exact ⟨rfl, rfl⟩
    · go_enter Tryd.func79, Tryd.ntmps79
      go_wp2
      go_ret2
      exact ⟨rfl, rfl⟩
end Go.Proofs.YtehfmaiogbehgaaDoor
