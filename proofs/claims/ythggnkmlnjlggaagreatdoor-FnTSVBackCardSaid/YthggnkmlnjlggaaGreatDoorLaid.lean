/-
  What the laid tables give the walks; values that come in as arguments.
  Conditions: none.
-/
import Derived.Test.YthggnkmlnjlggaaGreatDoorTie
import Derived.Test.YthggnkmlnjlggaaGreatDoorOpen
import Derived.ProofKit
import Derived.LaidMore
import Derived.Lay
import Derived.SevenTiedAt
import Derived.Stop.Joined
import Derived.Lib.LaidU8T
import Derived.PinnedBridge
import Derived.ChangeOld
namespace Go.Proofs.YthggnkmlnjlggaaGreatDoor
open Go.ChangeShapes Go.WideShapes Go.ChangeAt Go.RowKit Go.Deep

theorem own : ownKnob Tryz.prog.godebug = none := by kernel_rfl
theorem laidOut : laidOutB Tryz.prog = true := by kernel_rfl
def laid2 : List (String × DataW Unit) := [("unicode/utf8.acceptRanges", Rows.laid_unicode_utf8_acceptRanges), ("unicode/utf8.first", Rows.laid_unicode_utf8_first)]
theorem accept_data : (Rows.laid_unicode_utf8_acceptRanges : DataW Unit) = Go.Lib.acceptData := by kernel_rfl
theorem first_data : Rows.laid_unicode_utf8_first = Go.Lib.firstData := Pinned.utf8First_eq
theorem mem_first : ("unicode/utf8.first", Rows.laid_unicode_utf8_first) ∈ laid2 := List.mem_cons_of_mem _ List.mem_cons_self
theorem mem_accept : ("unicode/utf8.acceptRanges", Rows.laid_unicode_utf8_acceptRanges) ∈ laid2 := List.mem_cons_self
set_option maxRecDepth 100000 in
theorem tabs_laid {W : World} (h : laidMetH Tryz.prog laid2 W) : Tabs W := by
  rw [MakeChecks.laidMetH_plain _ _ _ (by kernel_rfl)] at h
  have h3 := Go.Lib.laidMet.reads h (d := Rows.laid_unicode_utf8_first) mem_first
  have h4 := Go.Lib.laidMet.reads h (d := Rows.laid_unicode_utf8_acceptRanges) mem_accept
  rw [first_data] at h3
  rw [accept_data] at h4
  exact utf8Tabs_of_readsT (.of196 Tryz.lays196) ⟨by kernel_rfl, by kernel_rfl, by kernel_rfl, by kernel_rfl, by kernel_rfl, by kernel_rfl, by kernel_rfl⟩ h3 h4

set_option maxRecDepth 100000 in
/-- An argument of the thin package's type. -/
theorem arg_value {H : Type} {enc : TypeId × Value → H} {W : World} {base : Nat} {v : Value} {d : DataW H} {p : List MemPlace} (hok : Value.okWide Tryz.prog W .any base 26 v)
    (h : DataW.Trod enc Tryz.prog W 0 (fun _ => true) true 26 v d p) (hw : Reached 26 d) : ∃ (x : V) (c0 c1 c2 c3 c4 c5 : Value), v = .agg #[c0, c1, c2, c3, c4, c5] ∧ Sized x ∧ KV W (fun _ => True) x [c0, c1, c2, c3, c4, c5] := by
  obtain ⟨cs, rfl, hsz⟩ := okWide_struct Tryz.underlying26 hok
  have c6 : Tryz.prog.cellsOf 26 = 6 := by kernel_rfl
  rw [c6] at hsz
  obtain ⟨l⟩ := cs
  match l, hsz with
  | [c0, c1, c2, c3, c4, c5], _ =>
    obtain ⟨fuel, hf⟩ := h
    obtain ⟨x, hx, hk⟩ := open_value fuel _ _ hf hw
    exact ⟨x, c0, c1, c2, c3, c4, c5, rfl, hx, hk⟩

set_option maxRecDepth 100000 in
/-- An argument that is a list of such values. -/
theorem arg_list {H : Type} {enc : TypeId × Value → H} {W : World} {base : Nat} {v : Value} {d : DataW H} {p : List MemPlace} (hok : Value.okWide Tryz.prog W .any base 23 v)
    (h : DataW.Trod enc Tryz.prog W 0 (fun _ => true) true 23 v d p) (hw : Reached 23 d) : ∃ l : List V, (∀ x ∈ l, Sized x) ∧ l.length ≤ 9223372036854775807 ∧ KVs W (fun _ => True) l v := by
  obtain ⟨A, n, c, rfl⟩ := okWide_slice Tryz.underlying23 hok
  obtain ⟨fuel, hf⟩ := h
  have hf' : DataW.trod enc Tryz.prog W 0 (fun _ => true) true fuel 23 [.slice A n c] = some (d, p) := hf
  obtain ⟨v1, n1, m1, C1, e3, _, _, b1, s1, r1⟩ := open_slice_v Tryz.underlying23 (show Tryz.prog.cellsOf 26 = 6 by kernel_rfl) (by decide) hf' hw
  simp only [List.cons.injEq, and_true] at e3
  subst e3
  obtain ⟨F1, hF1⟩ := choose_lt (α := V) (n := n1) (p := fun i v => Sized v ∧ KV W (fun _ => True) v (C1 i)) (fun i hi => by
    obtain ⟨y, hy, hyw⟩ := r1 i hi
    exact open_value m1 _ _ hy hyw)
  obtain ⟨z1, k1⟩ := kvs_of hF1
  exact ⟨(List.range n1).map F1, z1, by simpa using b1, C1, by simpa using s1, k1⟩

/-- What a law answers: true; what was there is as it was. -/
def Yes (w : World) (e : Ending) (w' : World) : Prop := e = .returned (.bool true) ∧ Old w w'
theorem met_start (os : Os) (args : Array Value) : laidMetH Tryz.prog laid2 ((World.laidAll Tryz.prog os laid2).forCall (fun _ _ => 0) ⟨#[], args, []⟩).memory := by
  rw [MakeChecks.laidMetH_plain _ _ _ (by kernel_rfl)]
  exact laidMet_laidAll _ (by kernel_rfl) (by kernel_rfl)
end Go.Proofs.YthggnkmlnjlggaaGreatDoor
