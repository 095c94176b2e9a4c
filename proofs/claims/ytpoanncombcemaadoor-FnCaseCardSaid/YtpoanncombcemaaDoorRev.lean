/-
  A list of the program's values is turned round.
  Conditions: none.
-/
import Derived.Test.YtpoanncombcemaaDoorRes
namespace Go.Proofs.YtpoanncombcemaaDoor
open Go.RowKit

/-- The new list so far: its last k places are filled. -/
def Revd (w wr : World) (n : Nat) (X : Nat → Value) (k : Nat) : Prop := (∃ cs, Blk wr w.heap.size cs 20 ∧ cs.size = n ∧ ∀ j, j < k → cs[n - 1 - j]? = some (X j)) ∧ Old w wr
theorem Revd.start (w : World) (n : Nat) (X : Nat → Value) : Revd w (w.alloc (.cells (madeCells #[.nilIface] n) 20)) n X 0 :=
  ⟨⟨_, Blk.new w _ _, by simp [madeCells], fun j hj => absurd hj (by omega)⟩, (Old.refl w).alloc _⟩
theorem Revd.put {w wr : World} {n : Nat} {X : Nat → Value} {k m : Nat} (h : Revd w wr n X k) (hk : n = k + 1 + m) : Revd w (wr.setCell ⟨w.heap.size, m, none⟩ (X k)) n X (k + 1) := by
  obtain ⟨⟨cs, hb, hs, hy⟩, hold⟩ := h
  refine ⟨⟨cs.setIfInBounds m (X k), hb.set m (X k), by simpa using hs, fun j hj => ?_⟩, hold.setCell (Nat.le_refl _) (X k)⟩
  by_cases he : j = k
  · subst he
    rw [show n - 1 - j = m by omega, Array.getElem?_setIfInBounds_self_of_lt (by omega)]
  · rw [Array.getElem?_setIfInBounds_ne (by omega)]
    exact hy j (by omega)
theorem Revd.cell {w wr : World} {n : Nat} {X : Nat → Value} {k : Nat} (h : Revd w wr n X k) (i : Nat) (hi : i < n) : (∃ y, wr.cell? ⟨w.heap.size, i, none⟩ = some y) ∧ wr.frozen? ⟨w.heap.size, i, none⟩ = false := by
  obtain ⟨⟨cs, hb, hs, _⟩, _⟩ := h
  exact ⟨⟨cs[i]'(by omega), by rw [hb.cell]; simp [hs, hi]⟩, hb.frozen i⟩
theorem Revd.done {w wr : World} {l : List J} {X : Nat → Value} {ok : Nat → Prop} (h : Revd w wr l.length X l.length) (hx : ∀ i (hi : i < l.length), KJ w ok l[i] (X i)) :
    KJ wr (fun _ => True) (.arr l.reverse) (.iface 65 (.slice (some ⟨w.heap.size, 0, none⟩) l.length l.length)) := by
  obtain ⟨⟨cs, hb, hs, hy⟩, hold⟩ := h
  refine .arr l.reverse _ (fun i => X (l.length - 1 - i)) ?_ fun i hi => ?_
  · rw [List.length_reverse]
    refine ⟨_, _, rfl, Nat.le_refl _, (fun h => by (cases h)), fun _ => ⟨w.heap.size, 0, cs, _, _, rfl, trivial, hb, fun i hi => ⟨rfl, fun j hj => ?_⟩⟩⟩
    obtain rfl : j = 0 := by omega
    have := hy (l.length - 1 - i) (by omega)
    rw [show l.length - 1 - (l.length - 1 - i) = i by omega] at this
    simp [this]
  · rw [List.length_reverse] at hi
    rw [List.getElem_reverse]
    exact ((hx (l.length - 1 - i) (by omega)).old hold).mono fun _ _ _ => trivial

theorem one_at {w : World} {ok : Nat → Prop} {A : Option Addr} {m c n : Nat} {X : Nat → Value} (h : SliceV w ok (.slice A m c) 1 n fun i => [X i]) (k : Nat) (hk : k < n) : ∃ b o, A = some ⟨b, o, none⟩ ∧ b < w.heap.size ∧ w.cell? ⟨b, o + k, none⟩ = some (X k) := by
  obtain ⟨b, o, he, hb, _, hc⟩ := h.at_ k hk
  have := hc 0 (by omega)
  simp at this
  exact ⟨b, o, he, hb, this⟩

def GoAns (w : World) (j : J) (e : Ending) (w' : World) : Prop := ∃ y, e = .returned y ∧ KJ w' (fun _ => True) j y ∧ Old w w'
set_option maxHeartbeats 1000000 in
set_option maxRecDepth 100000 in
theorem reverse_go (l : List J) (hl : l.length ≤ 1048576) (w : World) (ok : Nat → Prop) (x : Value) (h : KJ w ok (.arr l) x) : Calls Tryd.prog 46 #[x] w (GoAns w (.arr l.reverse)) := by
  have hmk := run_make_row' (P := Tryd.prog) 65 20 .nilIface 16 Tryd.underlying65 Tryd.infoAny rfl .i64 .i64 l.length (by omega) (by omega)
  cases h with
  | arr _ v X s r =>
    obtain ⟨A, c, rfl, hcap⟩ := s.len
    have S := Lib.hid s
    have R := Lib.hid r
    clear s r
    have t4 := as_arr
    go_enter Tryd.func46, Tryd.ntmps46
    go_wp2
    go_loopg [24] l.length (fun gk s24 wr => ∃ k, k + gk = l.length ∧ s24 = .int .i64 k ∧ Revd w wr l.length X k)
    case atStart => exact ⟨0, by simp, rfl, Revd.start w _ X⟩
    case round =>
      obtain ⟨k, hk, rfl, R0⟩ := hrel
      have HK := Lib.hid hk
      clear hmk t4
      by_cases hlt : k < l.length
      · obtain ⟨b, o, rfl, hb, k0⟩ := one_at (S.out.old R0.2) k hlt
        obtain ⟨⟨y, hy⟩, hz⟩ := R0.cell (l.length - k - 1) (by omega)
        have P := Lib.hid (R0.put (m := l.length - k - 1) (by omega))
        obtain ⟨x, hx⟩ : ∃ x, x = X k := ⟨_, rfl⟩
        have hj := R.out k hlt
        rw [← hx] at k0 hj
        have HX := Lib.hid hx
        clear R0 hx
        rcases jshape hj with rfl | ⟨xt, xv, rfl⟩
        all_goals
          clear hj
          go_wp2
          go_roundg (gk - 1)
          case measure => omega
          case rel =>
            refine ⟨k + 1, by omega, by go_num, ?_⟩
            rw [HX.out]
            exact P.out
      · obtain rfl : k = l.length := by omega
        go_wp2
        go_ret
        exact ⟨_, rfl, R0.done R.out, R0.2⟩
end Go.Proofs.YtpoanncombcemaaDoor
