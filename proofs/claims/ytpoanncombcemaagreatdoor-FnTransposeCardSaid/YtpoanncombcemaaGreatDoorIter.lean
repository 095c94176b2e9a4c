/-
  The keys of a map, sorted, as the library gives them: the shelf's contracts at this dump (turned from what lay-iter.mjs prints).
  Conditions: the map is not nil.
-/
import Derived.Test.YtpoanncombcemaaGreatDoorLayIter
import Derived.Test.YtpoanncombcemaaGreatDoorFrom4
namespace Go.Proofs.YtpoanncombcemaaGreatDoor
open Go.RowKit Go.Maps Go.Sort Go.Shelf

theorem sorts70 (m : Nat) : AnyZ.SortsIn Tryz.prog Tryz.sorted_ren Fence.wide m :=
  ⟨fun blk off cap ss W hH hblk hsz => callsIn_wide.2 (AnyM.slices_Sort_string Tryz.sort blk off cap ss W hH hblk hsz),
   fun p cap W => callsIn_wide.2 (AnyM.slices_Sort_string_none Tryz.sort p cap W)⟩
theorem keys_any (mb : Option Nat) (W : World) : Calls Tryz.prog 142 #[.map mb] W fun e w' => e = .returned (.func (.func 157) #[] #[.pointer (some ⟨W.heap.size, 0, none⟩)]) ∧ w' = W.alloc (.cells #[.map mb] 78) :=
  (callsIn_wide (n := 5)).1 (AnyZ.keys_in Tryz.keys Fence.wide 5 trivial rfl mb W)

set_option maxHeartbeats 1000000 in
theorem sorted_any {H : Type} (b nn : Nat) (D0 : DataW H) (R : Value → Option (DataW H × List MemPlace)) (w : World) (hown : w.ownsMap Tryz.prog 9 R b nn D0) (hmax : Maps.size D0 ≤ maxLen) (hbytes : Maps.size D0 * 16 ≤ 140737488355328) :
    Calls Tryz.prog 141 #[.func (.func 157) #[] #[.pointer (some ⟨w.heap.size, 0, none⟩)]] (w.alloc (.cells #[.map (some b)] 78)) fun e w' => ∃ (v : Value) (ss : List (List UInt8)), e = .returned v ∧ ss.Perm (strKeys D0) ∧
      w'.ownsRow (w.alloc (.cells #[.map (some b)] 78)).heap.size 9 1 v ss.length ((ss.mergeSort (fun x y => decide (x ≤ y))).map encStr) ∧ (v = .slice none 0 0 ↔ ss = []) ∧ Below (w.alloc (.cells #[.map (some b)] 78)).heap.size (w.alloc (.cells #[.map (some b)] 78)) w' := by
  have hbl := hown.lt
  have hseq : SeqGives Fence.wide 2 Tryz.prog 157 #[.pointer (some ⟨w.heap.size, 0, none⟩)] encStr (fun ss => ss.Perm (strKeys D0)) (Maps.size D0) (w.alloc (.cells #[.map (some b)] 78)) :=
    AnyZ.keys_gives (ρ := Tryz.keys_ren) { Tryz.keys with } Fence.wide _ trivial rfl (by omega) w.heap.size b nn D0 _ (by simp) (by simp) (by
      obtain ⟨es, clock, hb, Ft, hs, hD⟩ := hown
      exact ⟨es, clock, (Below.heap_alloc _ _ b hbl).trans hb, Ft, hs, hD⟩)
  exact (callsIn_wide (n := 5)).1 (AnyZ.sorted_in Tryz.sorted Fence.wide 5 trivial trivial trivial trivial rfl (by omega) (sorts70 _) (enters_of Tryz.func156 (by kernel_rfl) rfl) 157 #[.pointer (some ⟨w.heap.size, 0, none⟩)] trivial (enters_of Tryz.func157 (by kernel_rfl) rfl) _ _ hmax hbytes _ hseq)
end Go.Proofs.YtpoanncombcemaaGreatDoor
