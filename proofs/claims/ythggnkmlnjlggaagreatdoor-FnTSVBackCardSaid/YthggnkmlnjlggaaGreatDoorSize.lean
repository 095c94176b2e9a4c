/-
  A value's own texts and lists are measured: what the measure shows.
  Conditions: none.
-/
import Derived.Test.YthggnkmlnjlggaaGreatDoorFit3
namespace Go.Proofs.YthggnkmlnjlggaaGreatDoor
open Go.RowKit

def SizeAns (w : World) (P : Prop) (e : Ending) (w' : World) : Prop := ∃ b, e = .returned (.bool b) ∧ Old w w' ∧ (b = true → P)
theorem fits2_any (ks : List ByteArray) (hn : ks.length ≤ 9223372036854775807) (w : World) (ok : Nat → Prop) (v : Value) (h : SliceV w ok v 1 ks.length fun i => [.string (ks.getD i nilS)]) : Calls Tryz.prog 11 #[v] w (SizeAns w True) := by
  obtain ⟨A, c, rfl, hc⟩ := h.len
  by_cases hb : (2147483647 : Int) < (ks.length : Int)
  · go_enter Tryz.func11, Tryz.ntmps11
    go_wp2
    go_ret
    exact ⟨_, rfl, Old.refl _, fun _ => trivial⟩
  · have H := Lib.hid h
    clear h
    go_enter Tryz.func11, Tryz.ntmps11
    go_wp2
    go_loopg [10] ks.length (fun gk s10 wr => ∃ k, k + gk = ks.length ∧ s10 = .int .i64 k ∧ wr = w)
    case atStart => exact ⟨0, by simp, rfl, rfl⟩
    case round =>
      obtain ⟨k, hk, rfl, rfl⟩ := hrel
      have HK := Lib.hid hk
      by_cases hlt : k < ks.length
      · obtain ⟨b2, o2, rfl, hb2, k0⟩ := keyAt H.out k hlt
        by_cases hl : (2147483647 : Int) < ((kth ks k).size : Int)
        · go_wp2
          go_ret
          exact ⟨_, rfl, Old.refl _, fun _ => trivial⟩
        · go_wp2
          go_roundg (gk - 1)
          case measure => omega
          case rel => exact ⟨k + 1, by omega, by go_num, rfl⟩
      · obtain rfl : k = ks.length := by omega
        go_wp2
        go_ret
        exact ⟨_, rfl, Old.refl _, fun _ => trivial⟩

set_option maxHeartbeats 1000000 in
theorem fits1_any (v : V) (hz : Sized v) (w : World) (ok : Nat → Prop) (c0 c1 c2 c3 c4 c5 : Value) (h : KV w ok v [c0, c1, c2, c3, c4, c5]) : Calls Tryz.prog 5 #[.agg #[c0, c1, c2, c3, c4, c5]] w (SizeAns w (v.text.size ≤ 2147483647)) := by
  obtain ⟨v1, v2, v3, C1, C3, hcs, s1, r1, s2, s3, r3⟩ : ∃ v1 v2 v3 C1 C3, [c0, c1, c2, c3, c4, c5] = [.int .i64 v.kind, .int .i64 v.half, .string v.text, v1, v2, v3] ∧ SliceV w ok v1 6 v.list.length C1 ∧ (∀ i (hi : i < v.list.length), KV w ok v.list[i] (C1 i)) ∧
    SliceV w ok v2 1 v.keys.length (fun i => [.string (v.keys.getD i nilS)]) ∧ SliceV w ok v3 6 v.vals.length C3 ∧ (∀ i (hi : i < v.vals.length), KV w ok v.vals[i] (C3 i)) := by
    cases v
    exact h.form
  simp only [List.cons.injEq, and_true] at hcs
  obtain ⟨rfl, rfl, rfl, rfl, rfl, rfl⟩ := hcs
  have hk : v.keys.length ≤ 9223372036854775807 := by cases hz; assumption
  obtain ⟨A1, m1, rfl, hn1⟩ := s1.len
  obtain ⟨A2, m2, rfl, hn2⟩ := s2.len
  obtain ⟨A3, m3, rfl, hn3⟩ := s3.len
  obtain ⟨kd, hkd⟩ : ∃ x, x = v.kind := ⟨_, rfl⟩
  obtain ⟨hf, hhf⟩ : ∃ x, x = v.half := ⟨_, rfl⟩
  obtain ⟨tx, htx⟩ : ∃ x, x = v.text := ⟨_, rfl⟩
  obtain ⟨n1, hl1⟩ : ∃ x, x = v.list.length := ⟨_, rfl⟩
  obtain ⟨n3, hl3⟩ : ∃ x, x = v.vals.length := ⟨_, rfl⟩
  rw [← hkd, ← hhf, ← htx, ← hl1, ← hl3]
  obtain ⟨ks, hks⟩ : ∃ x, x = v.keys := ⟨_, rfl⟩
  rw [← hks] at s2 hk ⊢
  have S2 := Lib.hid (s2.old ((Old.refl w).alloc (.cells #[.int .i64 kd, .int .i64 hf, .string tx, .slice A1 n1 m1, .slice A2 ks.length m2, .slice A3 n3 m3] 26)))
  clear s1 s2 s3 r1 r3 h hz hkd hhf htx hl1 hl3 hks hn1 hn2 hn3
  go_enter Tryz.func5, Tryz.ntmps5
  go_wp2_with (go_at_call 11; refine (fits2_any ks hk _ _ _ S2.out).mono ?_; rintro e w2 ⟨b2, rfl, ho, _⟩; have HO := Lib.hid ho; have xb := ((Blk.new w #[.int .i64 kd, .int .i64 hf, .string tx, .slice A1 n1 m1, .slice A2 ks.length m2, .slice A3 n3 m3] 26).old ho); have x5 : w2.cell? ⟨w.heap.size, 5, none⟩ = some (.slice A3 n3 m3) := xb.cell 5; clear ho xb; cases b2)
  all_goals go_ret
  all_goals first
    | exact ⟨_, rfl, ((Old.refl w).alloc _).trans HO.out, fun h => by first | omega | exact absurd h (by simp)⟩
    | exact ⟨_, rfl, (Old.refl w).alloc _, fun h => by first | omega | exact absurd h (by simp)⟩
end Go.Proofs.YthggnkmlnjlggaaGreatDoor
