/-
  Rows to columns: the walk of the program's transpose.
  Conditions: the elements are arrays.
-/
import Derived.Test.YtpoanncombcemaaGreatDoorTrP
namespace Go.Proofs.YtpoanncombcemaaGreatDoor
open Go.RowKit

theorem tr_one {w : World} {ok : Nat → Prop} {A : Option Addr} {m c n : Nat} {X : Nat → Value} (h : SliceV w ok (.slice A m c) 1 n fun i => [X i]) (k : Nat) (hk : k < n) : ∃ b o, A = some ⟨b, o, none⟩ ∧ b < w.heap.size ∧ w.cell? ⟨b, o + k, none⟩ = some (X k) := by
  obtain ⟨b, o, he, hb, _, hc⟩ := h.at_ k hk
  have := hc 0 (by omega)
  simp at this
  exact ⟨b, o, he, hb, this⟩
/-- Row k, where all are arrays. -/
theorem row_at {w : World} {ok : Nat → Prop} {L : List J} {X : Nat → Value} (hall : ∀ r ∈ L, ∃ l, r = .arr l) (hr : ∀ i (hi : i < L.length), KJ w ok L[i] (X i)) (k : Nat) (hk : k < L.length) :
    ∃ (A : Option Addr) (n c : Nat) (Y : Nat → Value), X k = .iface 75 (.slice A n c) ∧ n = (rowOf (jth L k)).length ∧ n ≤ c ∧ SliceV w ok (.slice A n c) 1 n (fun i => [Y i]) ∧ ∀ i, i < n → KJ w ok (jth (rowOf (jth L k)) i) (Y i) := by
  have h := hr k hk
  obtain ⟨l, hl⟩ := hall _ (List.getElem_mem hk)
  rw [jth_eq] at hl
  rw [jth_eq, hl] at h
  rw [hl]
  generalize X k = x at *
  cases h with
  | arr _ v Y s r =>
    obtain ⟨A, c, rfl, hc⟩ := s.len
    refine ⟨A, l.length, c, Y, rfl, rfl, hc, s, fun i hi => ?_⟩
    show KJ w ok (jth l i) (Y i)
    rw [← jth_eq l i hi]
    exact r i hi
theorem Made.cells {w wr : World} {k l i : Nat} (h : Made w wr k l i) (hi : i < l) : (∃ y, wr.cell? ⟨w.heap.size, i, none⟩ = some y) ∧ wr.frozen? ⟨w.heap.size, i, none⟩ = false ∧ (∃ y, wr.cell? ⟨w.heap.size + 1, i, none⟩ = some y) ∧ wr.frozen? ⟨w.heap.size + 1, i, none⟩ = false ∧ w.heap.size < wr.heap.size ∧ w.heap.size + 1 < wr.heap.size := by
  obtain ⟨⟨ca, ba, sa, ra⟩, ⟨cb, bb, sb, rb⟩, hc, hs, ho⟩ := h
  exact ⟨⟨ca[i]'(by omega), by rw [ba.cell]; simp [sa, hi]⟩, ba.frozen i, ⟨cb[i]'(by omega), by rw [bb.cell]; simp [sb, hi]⟩, bb.frozen i, by omega, by omega⟩
theorem Holds.cells {w wr : World} {ok : Nat → Prop} {L : List J} {k l i j : Nat} (h : Holds w wr ok L k l i j) (hi : i < k) (hj : j < l) : wr.cell? ⟨w.heap.size, j, none⟩ = some (.slice (some ⟨w.heap.size + 2 + j, 0, none⟩) k k) ∧ (∃ y, wr.cell? ⟨w.heap.size + 2 + j, i, none⟩ = some y) ∧ wr.frozen? ⟨w.heap.size + 2 + j, i, none⟩ = false := by
  obtain ⟨f, ⟨⟨ca, ba, ra⟩, _, hf, ho⟩, hk⟩ := h
  obtain ⟨cs, hb, hs, hx⟩ := hf j hj
  exact ⟨by rw [ba.cell]; exact ra j hj, ⟨_, by rw [hb.cell]; exact hx i hi⟩, hb.frozen i⟩
theorem Holds.old {w wr : World} {ok : Nat → Prop} {L : List J} {k l i j : Nat} (h : Holds w wr ok L k l i j) : Old w wr := by
  obtain ⟨f, hf, _⟩ := h
  exact hf.old

set_option maxHeartbeats 4000000 in
set_option maxRecDepth 100000 in
theorem transpose_go (L : List J) (hL : L.length ≤ 1048576) (hall : ∀ r ∈ L, ∃ l, r = .arr l) (hrow : ∀ r ∈ L, (rowOf r).length ≤ 1048576) (w : World) (ok : Nat → Prop) (x : Value) (h : KJ w ok (.arr L) x) : Calls Tryz.prog 70 #[x] w (GoAns w (transJ L)) := by
  have hml := most_le L 1048576 hrow L.length
  have HML := Lib.hid (most_le L 1048576 hrow)
  cases h with
  | arr _ v X s r =>
    obtain ⟨A, c, rfl, hcap⟩ := s.len
    have S := Lib.hid s
    have R := Lib.hid r
    have ALL := Lib.hid hall
    clear s r hall hrow
    have t4 := as_arr
    have t5 := must_arr
    by_cases h0 : L.length = 0
    · obtain rfl := List.eq_nil_of_length_eq_zero h0
      clear hml hL h0 hcap
      go_enter Tryz.func70, Tryz.ntmps70
      go_wp2
      go_ret
      exact ⟨_, rfl, .arr [] _ (fun _ => .nilIface) ⟨_, _, rfl, Nat.le_refl _, (fun h => by (cases h)), fun h => absurd h (by simp)⟩ (fun i hi => absurd hi (by simp)), (Old.refl w).alloc _⟩
    · have h1 : 0 < L.length := by omega
      clear h0
      obtain ⟨l, hl⟩ : ∃ l, l = most L L.length := ⟨_, rfl⟩
      rw [← hl] at hml
      have HLM := Lib.hid hl
      clear hl
      have mk1 := run_make_row' (P := Tryz.prog) 127 75 (.slice none 0 0) 24 Tryz.underlying127 Tryz.infoRow rfl .i64 .i64 l (by omega) (by omega)
      have mk2 := run_make_row' (P := Tryz.prog) 75 20 .nilIface 16 Tryz.underlying75 Tryz.infoAny rfl .i64 .i64 l (by omega) (by omega)
      have mk3 := run_make_row' (P := Tryz.prog) 75 20 .nilIface 16 Tryz.underlying75 Tryz.infoAny rfl .i64 .i64 L.length (by omega) (by omega)
      go_enter Tryz.func70, Tryz.ntmps70
      go_wp2
      go_loopg [5, 38] L.length (fun gk s5 s38 wr => ∃ k, k + gk = L.length ∧ s5 = .int .i64 (most L k : Nat) ∧ s38 = .int .i64 (k : Nat) ∧ w = wr)
      case atStart => exact ⟨0, by simp, rfl, rfl, rfl⟩
      case round =>
        obtain ⟨k, hk, rfl, rfl, rfl⟩ := hrel
        by_cases hlt : k < L.length
        · obtain ⟨b, o, rfl, hb, k0⟩ := tr_one S.out k hlt
          obtain ⟨A1, n1, c1, Y, hx, hn, _, _, _⟩ := row_at ALL.out R.out k hlt
          rw [hx] at k0
          have hmax : most L (k + 1) = max (most L k) n1 := by rw [hn]; rfl
          have HMX := Lib.hid hmax
          clear hx hn hmax
          have hmk := HML.out k
          by_cases hlt2 : most L k < n1
          · go_wp2
            go_roundg (gk - 1)
            case measure => omega
            case rel => exact ⟨k + 1, by omega, by rw [HMX.out, Nat.max_eq_right (by omega)], by go_num, rfl⟩
          · go_wp2
            go_roundg (gk - 1)
            case measure => omega
            case rel => exact ⟨k + 1, by omega, by rw [HMX.out, Nat.max_eq_left (by omega)], by go_num, rfl⟩
        · obtain rfl : k = L.length := by omega
          rw [← HLM.out]
          go_wp2
          go_loopg [13] l (fun gk s13 wr => ∃ i, i + gk = l ∧ s13 = .int .i64 (i : Nat) ∧ Made w wr L.length l i)
          case atStart => exact ⟨0, by simp, rfl, Made.start _ _ _⟩
          case round =>
            obtain ⟨i, hi, rfl, M⟩ := hrel
            by_cases hlt : i < l
            · obtain ⟨⟨y1, hy1⟩, f1, ⟨y2, hy2⟩, f2, hs1, hs2⟩ := M.cells hlt
              have P := M.put hlt
              rw [← M.size, World.setCell_alloc_past _ _ _ _ hs1, World.setCell_alloc_past _ _ _ _ (by rw [World.size_setCell]; exact hs2)] at P
              have PP := Lib.hid P
              clear M P mk1 mk2
              go_wp2
              go_roundg (gk - 1)
              case measure => omega
              case rel => exact ⟨i + 1, by omega, by go_num, PP.out⟩
            · obtain rfl : i = l := by omega
              have HM := Lib.hid (Holds.start (ok := ok) (L := L) M)
              clear M mk1 mk2 mk3
              go_wp2
              go_loopg [84] L.length (fun gk s84 wr => ∃ r, r + gk = L.length ∧ s84 = .int .i64 (r : Nat) ∧ Holds w wr ok L L.length i r 0)
              case atStart => exact ⟨0, by simp, rfl, HM.out⟩
              case round =>
                obtain ⟨r, hr, rfl, H⟩ := hrel
                have H0 := Lib.hid H
                by_cases hlr : r < L.length
                · obtain ⟨b, o, rfl, hb, k0⟩ := tr_one (S.out.old H.old) r hlr
                  obtain ⟨A1, n1, c1, Y, hx, hn, hc1, sy, ry⟩ := row_at ALL.out R.out r hlr
                  rw [hx] at k0
                  have hnl : n1 ≤ i := by rw [hn, HLM.out]; exact most_ge L _ r hlr
                  have HN := Lib.hid hn
                  have SY := Lib.hid sy
                  have RY := Lib.hid ry
                  clear hx hn sy ry H
                  go_wp2
                  obtain ⟨gr, rfl⟩ : ∃ g, g = gk := ⟨_, rfl⟩
                  go_loopg [92] n1 (fun gk s92 wr => ∃ j, j + gk = n1 ∧ s92 = .int .i64 (j : Nat) ∧ Holds w wr ok L L.length i r j)
                  case atStart => exact ⟨0, by simp, rfl, H0.out⟩
                  case round =>
                    obtain ⟨j, hj, rfl, H⟩ := hrel
                    have H1 := Lib.hid H
                    by_cases hlj : j < n1
                    · obtain ⟨b1, o1, rfl, hb1, k1⟩ := tr_one (SY.out.old H.old) j hlj
                      obtain ⟨z0, ⟨y1, z1⟩, f1⟩ := H.cells hlr (show j < i by omega)
                      have P := Lib.hid (H.put hlr (show j < i by omega) (RY.out j hlj))
                      have hjs := jshape (RY.out j hlj)
                      generalize Y j = y at *
                      clear H
                      rcases hjs with rfl | ⟨xt, xv, rfl⟩
                      all_goals
                        go_wp2
                        go_roundg (gk - 1)
                        case measure => omega
                        case rel => exact ⟨j + 1, by omega, by go_num, P.out⟩
                    · obtain rfl : j = n1 := by omega
                      clear H
                      go_wp2
                      go_roundg (gr - 1)
                      case measure => omega
                      case rel => exact ⟨r + 1, by omega, by go_num, by have := H1.out; rw [HN.out] at this; exact this.next⟩
                · obtain rfl : r = L.length := by omega
                  go_wp2
                  go_ret
                  have hd := H0.out
                  rw [HLM.out] at hd
                  rw [HLM.out]
                  exact ⟨_, rfl, hd.done, H0.out.old⟩
end Go.Proofs.YtpoanncombcemaaGreatDoor
