/-
  The keys of a map, sorted, as the library gives them: the shelf's contracts at this dump (turned from what lay-iter.mjs prints).
  Conditions: the map is not nil.
-/
import Derived.Test.YtehfmaiogbehgaaDoorLayIter
import Derived.Test.YtehfmaiogbehgaaDoorFrom4
namespace Go.Proofs.YtehfmaiogbehgaaDoor
open Go.RowKit Go.Maps Go.Sort Go.Shelf

theorem sorts70 (m : Nat) : AnyZ.SortsIn Tryd.prog Tryd.sorted_ren Fence.wide m :=
  ⟨fun blk off cap ss W hH hblk hsz => callsIn_wide.2 (AnyM.slices_Sort_string Tryd.sort blk off cap ss W hH hblk hsz),
   fun p cap W => callsIn_wide.2 (AnyM.slices_Sort_string_none Tryd.sort p cap W)⟩
theorem keys_any (mb : Option Nat) (W : World) : Calls Tryd.prog 30 #[.map mb] W fun e w' => e = .returned (.func (.func 36) #[] #[.pointer (some ⟨W.heap.size, 0, none⟩)]) ∧ w' = W.alloc (.cells #[.map mb] 70) :=
  (callsIn_wide (n := 5)).1 (AnyZ.keys_in Tryd.keys Fence.wide 5 trivial rfl mb W)

set_option maxHeartbeats 1000000 in
theorem sorted_any {H : Type} (b nn : Nat) (D0 : DataW H) (R : Value → Option (DataW H × List MemPlace)) (w : World) (hown : w.ownsMap Tryd.prog 9 R b nn D0) (hmax : Maps.size D0 ≤ maxLen) (hbytes : Maps.size D0 * 16 ≤ 140737488355328) :
    Calls Tryd.prog 29 #[.func (.func 36) #[] #[.pointer (some ⟨w.heap.size, 0, none⟩)]] (w.alloc (.cells #[.map (some b)] 70)) fun e w' => ∃ (v : Value) (ss : List (List UInt8)), e = .returned v ∧ ss.Perm (strKeys D0) ∧
      w'.ownsRow (w.alloc (.cells #[.map (some b)] 70)).heap.size 9 1 v ss.length ((ss.mergeSort (fun x y => decide (x ≤ y))).map encStr) ∧ (v = .slice none 0 0 ↔ ss = []) ∧ Below (w.alloc (.cells #[.map (some b)] 70)).heap.size (w.alloc (.cells #[.map (some b)] 70)) w' := by
  have hbl := hown.lt
  have hseq : SeqGives Fence.wide 2 Tryd.prog 36 #[.pointer (some ⟨w.heap.size, 0, none⟩)] encStr (fun ss => ss.Perm (strKeys D0)) (Maps.size D0) (w.alloc (.cells #[.map (some b)] 70)) :=
    AnyZ.keys_gives (ρ := Tryd.keys_ren) { Tryd.keys with } Fence.wide _ trivial rfl (by omega) w.heap.size b nn D0 _ (by simp) (by simp) (by
      obtain ⟨es, clock, hb, Ft, hs, hD⟩ := hown
      exact ⟨es, clock, (Below.heap_alloc _ _ b hbl).trans hb, Ft, hs, hD⟩)
  exact (callsIn_wide (n := 5)).1 (AnyZ.sorted_in Tryd.sorted Fence.wide 5 trivial trivial trivial trivial rfl (by omega) (sorts70 _) (enters_of Tryd.func35 (by kernel_rfl) rfl) 36 #[.pointer (some ⟨w.heap.size, 0, none⟩)] trivial (enters_of Tryd.func36 (by kernel_rfl) rfl) _ _ hmax hbytes _ hseq)
end Go.Proofs.YtehfmaiogbehgaaDoor
