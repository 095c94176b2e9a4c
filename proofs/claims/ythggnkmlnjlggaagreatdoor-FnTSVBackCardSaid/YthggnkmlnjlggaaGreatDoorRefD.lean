/-
  The reference's row: the walk of Nul.
  Conditions: none.
-/
import Derived.Test.YthggnkmlnjlggaaGreatDoorRefC
import Derived.Test.YthggnkmlnjlggaaGreatDoorWords
namespace Go.Proofs.YthggnkmlnjlggaaGreatDoor
open Go.RowKit

/-- No byte 0 in a text. -/
def Zfree (s : ByteArray) : Prop := ∀ k, k < s.size → s.data.toList.getD k 0 ≠ 0
def NulAns (v : V) (w : World) (e : Ending) (w' : World) : Prop := ∃ b, e = .returned (.bool b) ∧ (b = false → Zfree v.text ∧ ∀ x ∈ v.list, Zfree x.text) ∧ Old w w'
set_option maxHeartbeats 4000000 in
set_option maxRecDepth 100000 in
theorem nul_any (v : V) (ht : v.text.size ≤ 1000000) (hlt : ∀ x ∈ v.list, x.text.size ≤ 1000000) (hll : v.list.length ≤ 1000000) (w : World) (ok : Nat → Prop) (c0 c1 c2 c3 c4 c5 : Value) (hc : KV w ok v [c0, c1, c2, c3, c4, c5]) :
    Calls Tryz.prog 21 #[.agg #[c0, c1, c2, c3, c4, c5]] w (NulAns v w) := by
  obtain ⟨v1, v2, v3, C1, C3, hcs, s1, r1, s2, s3, r3⟩ : ∃ v1 v2 v3 C1 C3, [c0, c1, c2, c3, c4, c5] = [.int .i64 v.kind, .int .i64 v.half, .string v.text, v1, v2, v3] ∧ SliceV w ok v1 6 v.list.length C1 ∧ (∀ i (hi : i < v.list.length), KV w ok v.list[i] (C1 i)) ∧
    SliceV w ok v2 1 v.keys.length (fun i => [.string (v.keys.getD i nilS)]) ∧ SliceV w ok v3 6 v.vals.length C3 ∧ (∀ i (hi : i < v.vals.length), KV w ok v.vals[i] (C3 i)) := by
    cases v
    exact hc.form
  simp only [List.cons.injEq, and_true] at hcs
  obtain ⟨rfl, rfl, rfl, rfl, rfl, rfl⟩ := hcs
  obtain ⟨A1, m1, rfl, hn1⟩ := s1.len
  obtain ⟨A2, m2, rfl, hn2⟩ := s2.len
  obtain ⟨A3, m3, rfl, hn3⟩ := s3.len
  obtain ⟨kd, hkd⟩ : ∃ x, x = v.kind := ⟨_, rfl⟩
  obtain ⟨hf, hhf⟩ : ∃ x, x = v.half := ⟨_, rfl⟩
  obtain ⟨tx, htx⟩ : ∃ x, x = v.text := ⟨_, rfl⟩
  obtain ⟨l, hl⟩ : ∃ x, x = v.list := ⟨_, rfl⟩
  have HV := Lib.hid (show NulAns v w = fun e w' => ∃ b, e = .returned (.bool b) ∧ (b = false → Zfree tx ∧ ∀ x ∈ l, Zfree x.text) ∧ Old w w' by unfold NulAns; rw [htx, hl])
  rw [← hkd, ← hhf, ← htx]
  rw [← htx] at ht
  have hl' := hl.symm
  clear htx hl hkd hhf
  subst hl'
  obtain ⟨n2, hn2'⟩ : ∃ x, x = v.keys.length := ⟨_, rfl⟩
  obtain ⟨n3, hn3'⟩ : ∃ x, x = v.vals.length := ⟨_, rfl⟩
  rw [← hn2', ← hn3']
  clear hn2' hn3'
  obtain ⟨w1, hw1⟩ : ∃ x, x = w.alloc (.cells #[.int .i64 kd, .int .i64 hf, .string tx, .slice A1 v.list.length m1, .slice A2 n2 m2, .slice A3 n3 m3] 26) := ⟨_, rfl⟩
  have HO1 := Lib.hid (show Old w w1 by rw [hw1]; exact (Old.refl w).alloc _)
  have hbx : Blk w1 w.heap.size #[.int .i64 kd, .int .i64 hf, .string tx, .slice A1 v.list.length m1, .slice A2 n2 m2, .slice A3 n3 m3] 26 := by rw [hw1]; exact Blk.new _ _ _
  have x2 : w1.cell? ⟨w.heap.size, 2, none⟩ = some (.string tx) := hbx.cell 2
  have x3 : w1.cell? ⟨w.heap.size, 3, none⟩ = some (.slice A1 v.list.length m1) := hbx.cell 3
  have hbl : w.heap.size < w1.heap.size := hbx.lt
  have HK := Lib.hid (show KVs w1 ok v.list (.slice A1 v.list.length m1) from ⟨C1, s1.old HO1.out, fun i hi => (r1 i hi).old HO1.out⟩)
  have HIX := Lib.hid (fun k hk W => index_at tx k hk W)
  have HLT := Lib.hid hlt
  obtain ⟨n, hn⟩ : ∃ x, x = v.list.length := ⟨_, rfl⟩
  rw [← hn] at x3 hll hn1 hw1 ⊢
  have HN := Lib.hid hn
  clear hbx hc s1 s2 s3 r1 r3 hlt hn
  go_enter Tryz.func21, Tryz.ntmps21
  go_upto_region 1 with (fail)
  rw [← hw1]
  clear hw1
  go_wp2
  go_loopg [3] tx.size (fun gk s3 wr => ∃ k, k + gk = tx.size ∧ s3 = .int .i64 (k : Nat) ∧ (∀ j, j < k → tx.data.toList.getD j 0 ≠ 0) ∧ w1 = wr)
  case atStart => exact ⟨0, by omega, by go_num, fun j hj => absurd hj (by omega), rfl⟩
  case round =>
    obtain ⟨k, hk, rfl, hz, rfl⟩ := hrel
    have HZ := Lib.hid hz
    clear hz
    by_cases hlt : k < tx.size
    · have hix := HIX.out k hlt
      obtain ⟨c, hc⟩ : ∃ c, c = tx.data.toList.getD k 0 := ⟨_, rfl⟩
      rw [← hc] at hix
      have HC := Lib.hid hc
      have hkl : (k : Int) < (tx.size : Nat) := by omega
      have s1 : IntKind.i64.wrap ((k : Int) + 1) = (k : Int) + 1 := IntWalk.i64_in _ (by omega)
      clear hc
      by_cases h0 : c = 0
      · subst h0
        go_wp2
        go_ret
        rw [HV.out]
        exact ⟨_, rfl, fun h => absurd h (by simp), HO1.out⟩
      · have hne : ((c.toNat : Int) == 0) = false := by
          rw [beq_eq_false_iff_ne]
          intro h
          exact h0 (UInt8.toNat_inj.1 (by simpa using h))
        go_wp2
        go_roundg (gk - 1)
        case measure => omega
        case rel =>
          refine ⟨k + 1, by omega, by go_num, fun j hj => ?_, rfl⟩
          by_cases hjk : j = k
          · rw [hjk, ← HC.out]
            exact h0
          · exact HZ.out j (by omega)
    · have HZT := Lib.hid (show Zfree tx from fun j hj => HZ.out j (by omega))
      clear HZ
      go_wp2
      go_loopg [4] n (fun gk s4 wr => ∃ k, k + gk = n ∧ s4 = .int .i64 (k : Nat) ∧ (∀ j, j < k → Zfree (nth v.list j).text) ∧ w1 = wr)
      case atStart => exact ⟨0, by omega, by go_num, fun j hj => absurd hj (by omega), rfl⟩
      case round =>
        obtain ⟨i, hi, rfl, hz, rfl⟩ := hrel
        have HZ := Lib.hid hz
        clear hz
        by_cases hlt2 : i < n
        · obtain ⟨b, o, d0, d1, d2, d3, d4, d5, rfl, hb, hkv, e0, e1, e2, e3, e4, e5⟩ := six HK.out i (by rw [← HN.out]; exact hlt2)
          obtain ⟨_, _, _, _, _, _, _, _, _, rfl, rfl, rfl, rfl, rfl, rfl⟩ := shape hkv
          obtain ⟨ty, hty⟩ : ∃ x, x = (nth v.list i).text := ⟨_, rfl⟩
          rw [← hty] at e2
          have HTY := Lib.hid hty
          have hsz : ty.size ≤ 1000000 := by rw [hty, ← nth_eq _ _ (by rw [← HN.out]; exact hlt2)]; exact HLT.out _ (List.getElem_mem _)
          have HIY := Lib.hid (fun k hk W => index_at ty k hk W)
          have hil : (i : Int) < (n : Nat) := by omega
          have s2 : IntKind.i64.wrap ((i : Int) + 1) = (i : Int) + 1 := IntWalk.i64_in _ (by omega)
          obtain ⟨gko, hgko⟩ : ∃ gko, gko = gk := ⟨_, rfl⟩
          subst hgko
          clear hkv e0 e1 e3 e4 e5 hty
          go_wp2
          go_loopg [5] ty.size (fun gk s5 wr => ∃ k, k + gk = ty.size ∧ s5 = .int .i64 (k : Nat) ∧ (∀ j, j < k → ty.data.toList.getD j 0 ≠ 0) ∧ w1 = wr)
          case atStart => exact ⟨0, by omega, by go_num, fun j hj => absurd hj (by omega), rfl⟩
          case round =>
            obtain ⟨k, hk, rfl, hz, rfl⟩ := hrel
            have HZ2 := Lib.hid hz
            clear hz
            by_cases hlt : k < ty.size
            · have hix := HIY.out k hlt
              obtain ⟨c, hc⟩ : ∃ c, c = ty.data.toList.getD k 0 := ⟨_, rfl⟩
              rw [← hc] at hix
              have HC := Lib.hid hc
              have hkl : (k : Int) < (ty.size : Nat) := by omega
              have s1 : IntKind.i64.wrap ((k : Int) + 1) = (k : Int) + 1 := IntWalk.i64_in _ (by omega)
              clear hc
              by_cases h0 : c = 0
              · subst h0
                go_wp2
                go_ret
                rw [HV.out]
                exact ⟨_, rfl, fun h => absurd h (by simp), HO1.out⟩
              · have hne : ((c.toNat : Int) == 0) = false := by
                  rw [beq_eq_false_iff_ne]
                  intro h
                  exact h0 (UInt8.toNat_inj.1 (by simpa using h))
                go_wp2
                go_roundg (gk - 1)
                case measure => omega
                case rel =>
                  refine ⟨k + 1, by omega, by go_num, fun j hj => ?_, rfl⟩
                  by_cases hjk : j = k
                  · rw [hjk, ← HC.out]
                    exact h0
                  · exact HZ2.out j (by omega)
            · have HZY := Lib.hid (show Zfree ty from fun j hj => HZ2.out j (by omega))
              clear HZ2
              go_wp2
              go_roundg (gko - 1)
              case measure => omega
              case rel =>
                refine ⟨i + 1, by omega, by go_num, fun j hj => ?_, rfl⟩
                by_cases hji : j = i
                · rw [hji, ← HTY.out]
                  exact HZY.out
                · exact HZ.out j (by omega)
        · go_wp2
          go_ret
          rw [HV.out]
          refine ⟨_, rfl, fun _ => ⟨HZT.out, fun x hx => ?_⟩, HO1.out⟩
          obtain ⟨j, hj, rfl⟩ := List.getElem_of_mem hx
          rw [nth_eq]
          exact HZ.out j (by rw [← HN.out] at hj; omega)
end Go.Proofs.YthggnkmlnjlggaaGreatDoor
