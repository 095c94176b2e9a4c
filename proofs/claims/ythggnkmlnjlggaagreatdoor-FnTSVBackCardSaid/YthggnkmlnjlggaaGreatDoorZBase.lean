/-
  What the third seat's laws share: values that are looked at, an error where one is asked for.
  Conditions: none.
-/
import Derived.Test.YthggnkmlnjlggaaGreatDoorSame
import Derived.Stop.Asserts
import Derived.Deep.DeepMust
namespace Go.Proofs.YthggnkmlnjlggaaGreatDoor
open Go.RowKit

def AltAns (w : World) (v : V) (e : Ending) (w' : World) : Prop :=
  ∃ c0 c1 c2 c3 c4 c5, e = .returned (.agg #[c0, c1, c2, c3, c4, c5, .int .i64 0]) ∧ KV w' (fun b => w.heap.size ≤ b) v [c0, c1, c2, c3, c4, c5] ∧ Old w w'
def ErrAns (w : World) (e : Ending) (w' : World) : Prop := e = .returned (.agg #[.int .i64 0, .int .i64 0, .string ⟨#[]⟩, .slice none 0 0, .slice none 0 0, .slice none 0 0, .int .i64 1]) ∧ Old w w'
set_option maxHeartbeats 1000000 in
theorem fine_any {l : List V} (hz : ∀ x ∈ l, Sized x) (hl : l.length ≤ 9223372036854775807) (w : World) (ok : Nat → Prop) (v : Value) (h : KVs w ok l v) (hT : Tabs w) : Calls Tryz.prog 6 #[v] w (SizeAns w (∀ x ∈ l, Right x ∧ x.text.size ≤ 4096 ∧ nodes x ≤ 400)) := by
  have H := Lib.hid h
  have HT := Lib.hid hT
  have HZ := Lib.hid hz
  obtain ⟨C, s, _⟩ := h
  obtain ⟨A, c, rfl, _⟩ := s.len
  clear s hz hT
  go_enter Tryz.func6, Tryz.ntmps6
  go_wp2
  go_loopg [3] l.length (fun gk s3 wr => ∃ k, k + gk = l.length ∧ s3 = .int .i64 k ∧ Old w wr ∧ ∀ j, j < k → Right (nth l j) ∧ (nth l j).text.size ≤ 4096 ∧ nodes (nth l j) ≤ 400)
  case atStart => exact ⟨0, by simp, rfl, Old.refl w, fun j hj => absurd hj (by omega)⟩
  case round =>
    obtain ⟨k, hk, rfl, R, G⟩ := hrel
    have HK := Lib.hid hk
    by_cases hlt : k < l.length
    · have HR : KVs wr ok l (.slice A l.length c) := by
        obtain ⟨C, s, r⟩ := H.out
        exact ⟨C, s.old R, fun i hi => (r i hi).old R⟩
      obtain ⟨b, o, c0, c1, c2, c3, c4, c5, rfl, hb, hkv, e0, e1, e2, e3, e4, e5⟩ := six HR k hlt
      obtain ⟨A1, n1, m1, A2, n2, m2, A3, n3, m3, rfl, rfl, rfl, rfl, rfl, rfl⟩ := shape hkv
      have R0 := Lib.hid R
      have G0 := Lib.hid G
      have hsz := HZ.out (nth l k) (by rw [← nth_eq l k hlt]; exact List.getElem_mem hlt)
      have HSZ := Lib.hid hsz
      have KV0 := Lib.hid hkv
      obtain ⟨kd, hkd⟩ : ∃ x, x = (nth l k).kind := ⟨_, rfl⟩
      obtain ⟨hf, hhf⟩ : ∃ x, x = (nth l k).half := ⟨_, rfl⟩
      obtain ⟨tx, htx⟩ : ∃ x, x = (nth l k).text := ⟨_, rfl⟩
      rw [← hkd, ← hhf, ← htx] at KV0
      rw [← hkd] at e0
      rw [← hhf] at e1
      rw [← htx] at e2
      have TX := Lib.hid htx
      clear HR R hkv G hsz hkd hhf htx
      by_cases hbig : (4096 : Int) < (tx.size : Int)
      · go_wp2
        go_ret
        exact ⟨_, rfl, R0.out, fun h => absurd h (by simp)⟩
      · go_wp2_with (go_at_call 12; go_must (refine (fit_any HSZ.out _ _ _ _ _ _ _ _ KV0.out (HT.out.old R0.out)).mono ?_; rintro e w2 ⟨b2, rfl, ho, hr⟩; have R2 := Lib.hid (R0.out.trans ho); have HR2 := Lib.hid hr; clear ho hr; cases b2))
        · go_ret
          exact ⟨_, rfl, R2.out, fun h => absurd h (by simp)⟩
        · go_roundg (gk - 1)
          case measure => omega
          case rel =>
            refine ⟨k + 1, by omega, by go_num, R2.out, fun j hj => ?_⟩
            by_cases he : j = k
            · subst he
              exact ⟨(HR2.out trivial).1, by rw [← TX.out]; omega, (HR2.out trivial).2⟩
            · exact G0.out j (by omega)
    · obtain rfl : k = l.length := by omega
      go_wp2
      go_ret
      refine ⟨_, rfl, R, fun _ x hx => ?_⟩
      obtain ⟨j, hj, rfl⟩ := List.getElem_of_mem hx
      rw [nth_eq]
      exact G j hj

/-- An error, where one is asked for. -/
theorem told_err (w : World) (d0 d1 d2 d3 d4 d5 : Value) : Calls Tryz.prog 15 #[.agg #[.int .i64 0, .int .i64 0, .string ⟨#[]⟩, .slice none 0 0, .slice none 0 0, .slice none 0 0, .int .i64 1], .agg #[d0, d1, d2, d3, d4, d5], .int .i64 1] w (TrueAns w) := by
  go_enter Tryz.func15, Tryz.ntmps15
  go_wp2
  go_ret
  exact ⟨rfl, ((Old.refl w).alloc _).alloc _⟩
end Go.Proofs.YthggnkmlnjlggaaGreatDoor
