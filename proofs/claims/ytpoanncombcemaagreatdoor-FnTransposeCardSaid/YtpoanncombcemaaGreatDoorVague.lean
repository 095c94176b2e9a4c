/-
  A right value has nothing in it of which the manual is silent.
  Conditions: the value is right.
-/
import Derived.Test.YtpoanncombcemaaGreatDoorZBase
namespace Go.Proofs.YtpoanncombcemaaGreatDoor
open Go.RowKit

def FalseAns (w : World) (e : Ending) (w' : World) : Prop := e = .returned (.bool false) ∧ Old w w'
set_option maxHeartbeats 1000000 in
theorem vague_any {v : V} (hg : Good v) : ∀ (w : World) (ok : Nat → Prop) (c0 c1 c2 c3 c4 c5 : Value), KV w ok v [c0, c1, c2, c3, c4, c5] → Calls Tryz.prog 24 #[.agg #[c0, c1, c2, c3, c4, c5]] w (FalseAns w) := by
  induction hg with
  | mk k h t l ks vs k0 k6 hk tk lk kk kv hh ht hl hv hks hkt gl gv il iv =>
  intro w ok c0 c1 c2 c3 c4 c5 hc
  obtain ⟨v1, v2, v3, C1, C3, e, s1, r1, s2, s3, r3⟩ := hc.form
  obtain ⟨A1, m1, rfl, _⟩ := s1.len
  obtain ⟨A2, m2, rfl, _⟩ := s2.len
  obtain ⟨A3, m3, rfl, _⟩ := s3.len
  injection e with e0 e; injection e with e1 e; injection e with e2 e; injection e with e3 e; injection e with e4 e; injection e with e5 e
  subst e0 e1 e2 e3 e4 e5
  have HL := Lib.hid (show KVs w ok l _ from ⟨C1, s1, r1⟩)
  have HV := Lib.hid (show KVs w ok vs _ from ⟨C3, s3, r3⟩)
  clear hc s1 r1 s2 s3 r3 hks hkt gl gv ht hh e kv lk kk tk hk
  have BA := Lib.hid (Blk.new w #[.int .i64 k, .int .i64 h, .string t, .slice A1 l.length m1, .slice A2 ks.length m2, .slice A3 vs.length m3] 27)
  go_enter Tryz.func24, Tryz.ntmps24
  go_wp2
  go_loopg [2, 10] l.length (fun gk s2 s wr => ∃ j, j + gk = l.length ∧ s2 = .bool false ∧ s = .int .i64 (j : Nat) ∧ Old w wr ∧ Blk wr w.heap.size #[.int .i64 k, .int .i64 h, .string t, .slice A1 l.length m1, .slice A2 ks.length m2, .slice A3 vs.length m3] 27)
  case atStart => exact ⟨0, by simp, rfl, rfl, (Old.refl w).alloc _, BA.out⟩
  case round =>
    obtain ⟨j, hj, rfl, rfl, R, B⟩ := hrel
    have R0 := Lib.hid R
    have B0 := Lib.hid B
    by_cases hlt : j < l.length
    · have HR : KVs wr ok l (.slice A1 l.length m1) := by
        obtain ⟨C, s, r⟩ := HL.out
        exact ⟨C, s.old R, fun i hi => (r i hi).old R⟩
      obtain ⟨b, o, c0, c1, c2, c3, c4, c5, rfl, hb, hkv, e0, e1, e2, e3, e4, e5⟩ := six HR j hlt
      obtain ⟨B1, p1, q1, B2, p2, q2, B3, p3, q3, rfl, rfl, rfl, rfl, rfl, rfl⟩ := shape hkv
      have hmem : nth l j ∈ l := by rw [← nth_eq l j hlt]; exact List.getElem_mem hlt
      have HI := Lib.hid (il _ hmem)
      generalize hkd : (nth l j).kind = kd at *
      generalize hhf : (nth l j).half = hf at *
      generalize htx : (nth l j).text = tx at *
      clear hkd hhf htx hmem
      have KV0 := Lib.hid (hkv.old ((Old.refl wr).alloc (.cells #[.int .i64 kd, .int .i64 hf, .string tx, .slice B1 p1 q1, .slice B2 p2 q2, .slice B3 p3 q3] 27)))
      clear HR R hkv B
      go_wp2_with (go_at_call 24; go_must (refine (HI.out _ ok _ _ _ _ _ _ KV0.out).mono ?_; rintro e w2 ⟨rfl, ho⟩; have R2 := Lib.hid (((Old.refl wr).alloc _).trans ho); clear ho))
      go_roundg (gk - 1)
      case measure => omega
      case rel => exact ⟨j + 1, by omega, rfl, by go_num, R0.out.trans R2.out, B0.out.old R2.out⟩
    · obtain rfl : j = l.length := by omega
      have x0 := B.cell 0; have x5 := B.cell 5; have hlt2 := B.lt
      clear B R
      go_wp2
      go_loopg [2, 20] vs.length (fun gk s2 s wr => ∃ j, j + gk = vs.length ∧ s2 = .bool false ∧ s = .int .i64 (j : Nat) ∧ Old w wr ∧ Blk wr w.heap.size #[.int .i64 k, .int .i64 h, .string t, .slice A1 l.length m1, .slice A2 ks.length m2, .slice A3 vs.length m3] 27)
      case atStart => exact ⟨0, by simp, rfl, rfl, R0.out, B0.out⟩
      case round =>
        obtain ⟨j, hj, rfl, rfl, R, B⟩ := hrel
        have R0 := Lib.hid R
        have B0 := Lib.hid B
        by_cases hlt : j < vs.length
        · have HR : KVs wr ok vs (.slice A3 vs.length m3) := by
            obtain ⟨C, s, r⟩ := HV.out
            exact ⟨C, s.old R, fun i hi => (r i hi).old R⟩
          obtain ⟨b, o, c0, c1, c2, c3, c4, c5, rfl, hb, hkv, e0, e1, e2, e3, e4, e5⟩ := six HR j hlt
          obtain ⟨B1, p1, q1, B2, p2, q2, B3, p3, q3, rfl, rfl, rfl, rfl, rfl, rfl⟩ := shape hkv
          have hmem : nth vs j ∈ vs := by rw [← nth_eq vs j hlt]; exact List.getElem_mem hlt
          have HI := Lib.hid (iv _ hmem)
          generalize hkd : (nth vs j).kind = kd at *
          generalize hhf : (nth vs j).half = hf at *
          generalize htx : (nth vs j).text = tx at *
          clear hkd hhf htx hmem
          have KV0 := Lib.hid (hkv.old ((Old.refl wr).alloc (.cells #[.int .i64 kd, .int .i64 hf, .string tx, .slice B1 p1 q1, .slice B2 p2 q2, .slice B3 p3 q3] 27)))
          clear HR R hkv B
          go_wp2_with (go_at_call 24; go_must (refine (HI.out _ ok _ _ _ _ _ _ KV0.out).mono ?_; rintro e w2 ⟨rfl, ho⟩; have R2 := Lib.hid (((Old.refl wr).alloc _).trans ho); clear ho))
          go_roundg (gk - 1)
          case measure => omega
          case rel => exact ⟨j + 1, by omega, rfl, by go_num, R0.out.trans R2.out, B0.out.old R2.out⟩
        · obtain rfl : j = vs.length := by omega
          have x0 := B.cell 0; have x5 := B.cell 5; have hlt2 := B.lt
          clear B R
          have hne : ¬ k = 7 := by omega
          go_wp2
          go_ret
          exact ⟨by simp [hne], R0.out⟩
end Go.Proofs.YtpoanncombcemaaGreatDoor
