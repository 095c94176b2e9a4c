/-
  What the second seat's laws share: answers, errors, values that are looked at.
  Conditions: none.
-/
import Derived.Test.YtpoanncombcemaaGreatDoorRes
import Derived.Test.YtpoanncombcemaaGreatDoorSame
import Derived.Test.YtpoanncombcemaaGreatDoorFrom7
import Derived.Deep.DeepMust
namespace Go.Proofs.YtpoanncombcemaaGreatDoor
open Go.RowKit

def GoAns (w : World) (j : J) (e : Ending) (w' : World) : Prop := ∃ y, e = .returned y ∧ KJ w' (fun _ => True) j y ∧ Old w w'
def AltAns (w : World) (v : V) (e : Ending) (w' : World) : Prop :=
  ∃ c0 c1 c2 c3 c4 c5, e = .returned (.agg #[c0, c1, c2, c3, c4, c5, .int .i64 0]) ∧ KV w' (fun b => w.heap.size ≤ b) v [c0, c1, c2, c3, c4, c5] ∧ Old w w'

set_option maxHeartbeats 1000000 in
theorem told_any {v : V} (hg : Good v) (w : World) (ok1 ok2 : Nat → Prop) (c0 c1 c2 c3 c4 c5 d0 d1 d2 d3 d4 d5 : Value) (hc : KV w ok1 v [c0, c1, c2, c3, c4, c5]) (hd : KV w ok2 v [d0, d1, d2, d3, d4, d5]) :
    Calls Tryz.prog 10 #[.agg #[c0, c1, c2, c3, c4, c5, .int .i64 0], .agg #[d0, d1, d2, d3, d4, d5], .int .i64 0] w (TrueAns w) := by
  have C := Lib.hid hc
  have D := Lib.hid hd
  obtain ⟨A1, n1, m1, A2, n2, m2, A3, n3, m3, rfl, rfl, rfl, rfl, rfl, rfl⟩ := shape hc
  obtain ⟨B1, l1, p1, B2, l2, p2, B3, l3, p3, rfl, rfl, rfl, rfl, rfl, rfl⟩ := shape hd
  clear hc hd
  generalize hkd : v.kind = kd at *
  generalize hhf : v.half = hf at *
  generalize htx : v.text = tx at *
  clear hkd hhf htx
  have ho := ((Old.refl w).alloc (.cells #[.int .i64 kd, .int .i64 hf, .string tx, .slice A1 n1 m1, .slice A2 n2 m2, .slice A3 n3 m3, .int .i64 0] 34)).alloc (.cells #[.int .i64 kd, .int .i64 hf, .string tx, .slice B1 l1 p1, .slice B2 l2 p2, .slice B3 l3 p3] 27)
  have HC := Lib.hid (same_any hg _ ok1 ok2 _ _ _ _ _ _ _ _ _ _ _ _ (C.out.old ho) (D.out.old ho))
  have HO := Lib.hid ho
  clear ho
  go_enter Tryz.func10, Tryz.ntmps10
  go_wp2_with (go_at_call 30; go_must (refine HC.out.mono ?_; rintro e w2 ⟨rfl, ho2⟩; have HO2 := Lib.hid ho2; clear ho2))
  go_ret
  exact ⟨rfl, HO.out.trans HO2.out⟩

set_option maxHeartbeats 1000000 in
theorem fits_any {l : List V} (hz : ∀ x ∈ l, Sized x) (hl : l.length ≤ 9223372036854775807) (w : World) (ok : Nat → Prop) (v : Value) (h : KVs w ok l v) (hT : Tabs w) : Calls Tryz.prog 7 #[v] w (SizeAns w (∀ x ∈ l, Right x)) := by
  have H := Lib.hid h
  have HT := Lib.hid hT
  have HZ := Lib.hid hz
  obtain ⟨C, s, _⟩ := h
  obtain ⟨A, c, rfl, _⟩ := s.len
  clear s hz hT
  go_enter Tryz.func7, Tryz.ntmps7
  go_wp2
  go_loopg [7] l.length (fun gk s7 wr => ∃ k, k + gk = l.length ∧ s7 = .int .i64 k ∧ Old w wr ∧ ∀ j, j < k → Right (nth l j))
  case atStart => exact ⟨0, by simp, rfl, Old.refl w, fun j hj => absurd hj (by omega)⟩
  case round =>
    obtain ⟨k, hk, rfl, R, G⟩ := hrel
    have HK := Lib.hid hk
    by_cases hlt : k < l.length
    · have HR : KVs wr ok l (.slice A l.length c) := by
        obtain ⟨C, s, r⟩ := H.out
        exact ⟨C, s.old R, fun i hi => (r i hi).old R⟩
      obtain ⟨b, o, c0, c1, c2, c3, c4, c5, rfl, hb, hkv, e0, e1, e2, e3, e4, e5⟩ := six HR k hlt
      obtain ⟨A1, n1, m1, A2, n2, m2, A3, n3, m3, rfl, rfl, rfl, rfl, rfl, rfl⟩ := shape hkv
      have R0 := Lib.hid R
      have G0 := Lib.hid G
      have hsz := HZ.out (nth l k) (by rw [← nth_eq l k hlt]; exact List.getElem_mem hlt)
      have HSZ := Lib.hid hsz
      generalize hkd : (nth l k).kind = kd at *
      generalize hhf : (nth l k).half = hf at *
      generalize htx : (nth l k).text = tx at *
      clear hkd hhf htx
      have KV0 := Lib.hid (hkv.old ((Old.refl wr).alloc (.cells #[.int .i64 kd, .int .i64 hf, .string tx, .slice A1 n1 m1, .slice A2 n2 m2, .slice A3 n3 m3] 27)))
      clear HR R hkv G hsz
      go_wp2_with (go_at_call 19; refine (fit_any HSZ.out _ _ _ _ _ _ _ _ KV0.out (HT.out.old (R0.out.trans ((Old.refl wr).alloc _)))).mono ?_; rintro e w2 ⟨b2, rfl, ho, hr⟩; have R2 := Lib.hid ((R0.out.trans ((Old.refl wr).alloc _)).trans ho); have HR2 := Lib.hid hr; clear ho hr; cases b2)
      · go_ret
        exact ⟨_, rfl, R2.out, fun h => absurd h (by simp)⟩
      · go_roundg (gk - 1)
        case measure => omega
        case rel =>
          refine ⟨k + 1, by omega, by go_num, R2.out, fun j hj => ?_⟩
          by_cases he : j = k
          · subst he
            exact HR2.out trivial
          · exact G0.out j (by omega)
    · obtain rfl : k = l.length := by omega
      go_wp2
      go_ret
      refine ⟨_, rfl, R, fun _ x hx => ?_⟩
      obtain ⟨j, hj, rfl⟩ := List.getElem_of_mem hx
      rw [nth_eq]
      exact G j hj

theorem is_err (a : Addr) (w : World) : (Instr.typeAssert (.iface 124 (.pointer (some a))) 20 82 true).run Tryz.prog w = .ok (.tuple #[.iface 124 (.pointer (some a)), .bool true]) w := by kernel_rfl

def ErrAns (w : World) (e : Ending) (w' : World) : Prop := e = .returned (.agg #[.int .i64 0, .int .i64 0, .string ⟨#[]⟩, .slice none 0 0, .slice none 0 0, .slice none 0 0, .int .i64 1]) ∧ Old w w'

set_option maxHeartbeats 1000000 in
set_option maxRecDepth 100000 in
theorem result_err (w : World) (a : Addr) : Calls Tryz.prog 32 #[.iface 124 (.pointer (some a))] w (ErrAns w) := by
  have he := fun w => is_err a w
  go_enter Tryz.func32, Tryz.ntmps32
  go_wp2
  refine bodyPost_ret (v := .agg #[.int .i64 0, .int .i64 0, .string ⟨#[]⟩, .slice none 0 0, .slice none 0 0, .slice none 0 0, .int .i64 1]) (by simp [results, Tryz.results32, go_sem]) rfl ?_
  exact ⟨rfl, (Old.refl w).alloc _⟩

/-- What is asked whether it is a text. -/
theorem str_or {w : World} {ok : Nat → Prop} {j : J} {x : Value} (h : KJ w ok j x) : (∃ s, j = .str s ∧ x = .iface 9 (.string s)) ∨ (∀ s, j ≠ .str s) ∧ (∀ W : World, (Instr.typeAssert x 20 9 true).run Tryz.prog W = .ok (.tuple #[.string ⟨#[]⟩, .bool false]) W) := by
  cases h with
  | nil => exact .inr ⟨fun _ => by simp, fun W => by kernel_rfl⟩
  | bool b => exact .inr ⟨fun _ => by simp, fun W => by kernel_rfl⟩
  | int n => exact .inr ⟨fun _ => by simp, fun W => by kernel_rfl⟩
  | flt h => exact .inr ⟨fun _ => by simp, fun W => by kernel_rfl⟩
  | str s => exact .inl ⟨s, rfl, rfl⟩
  | arr l v X s r => exact .inr ⟨fun _ => by simp, fun W => by kernel_rfl⟩
  | obj ks vs b xs hb hm hx r => exact .inr ⟨fun _ => by simp, fun W => by kernel_rfl⟩

theorem toJ_str {v : V} {s : ByteArray} (h : toJ v = .str s) (hg : Good v) : v.kind = 4 ∧ s = v.text := by
  cases hg with
  | mk k hh t l ks' vs' k0 k6 hk tk lk kk kv hh' ht hl hv hks hkt gl gv =>
    rcases (show k = 0 ∨ k = 1 ∨ k = 2 ∨ k = 3 ∨ k = 4 ∨ k = 5 ∨ k = 6 by omega) with rfl | rfl | rfl | rfl | rfl | rfl | rfl
    · simp [toJ] at h
    · simp [toJ] at h
    · simp [toJ] at h
    · by_cases he : hh % 2 = 0 <;> simp [toJ, he] at h
    · simp only [toJ] at h
      simp at h
      exact ⟨rfl, h.symm⟩
    · simp [toJ] at h
    · simp [toJ] at h

def GoErr (w : World) (e : Ending) (w' : World) : Prop := ∃ a, e = .returned (.iface 124 (.pointer (some a))) ∧ Old w w'

set_option maxHeartbeats 1000000 in
theorem fine_any {l : List V} (hz : ∀ x ∈ l, Sized x) (hl : l.length ≤ 9223372036854775807) (w : World) (ok : Nat → Prop) (v : Value) (h : KVs w ok l v) (hT : Tabs w) : Calls Tryz.prog 14 #[v] w (SizeAns w (∀ x ∈ l, Right x ∧ x.text.size ≤ 4096)) := by
  have H := Lib.hid h
  have HT := Lib.hid hT
  have HZ := Lib.hid hz
  obtain ⟨C, s, _⟩ := h
  obtain ⟨A, c, rfl, _⟩ := s.len
  clear s hz hT
  go_enter Tryz.func14, Tryz.ntmps14
  go_wp2
  go_loopg [3] l.length (fun gk s3 wr => ∃ k, k + gk = l.length ∧ s3 = .int .i64 k ∧ Old w wr ∧ ∀ j, j < k → Right (nth l j) ∧ (nth l j).text.size ≤ 4096)
  case atStart => exact ⟨0, by simp, rfl, Old.refl w, fun j hj => absurd hj (by omega)⟩
  case round =>
    obtain ⟨k, hk, rfl, R, G⟩ := hrel
    have HK := Lib.hid hk
    by_cases hlt : k < l.length
    · have HR : KVs wr ok l (.slice A l.length c) := by
        obtain ⟨C, s, r⟩ := H.out
        exact ⟨C, s.old R, fun i hi => (r i hi).old R⟩
      obtain ⟨b, o, c0, c1, c2, c3, c4, c5, rfl, hb, hkv, e0, e1, e2, e3, e4, e5⟩ := six HR k hlt
      obtain ⟨A1, n1, m1, A2, n2, m2, A3, n3, m3, rfl, rfl, rfl, rfl, rfl, rfl⟩ := shape hkv
      have R0 := Lib.hid R
      have G0 := Lib.hid G
      have hsz := HZ.out (nth l k) (by rw [← nth_eq l k hlt]; exact List.getElem_mem hlt)
      have HSZ := Lib.hid hsz
      have KV0 := Lib.hid hkv
      obtain ⟨kd, hkd⟩ : ∃ x, x = (nth l k).kind := ⟨_, rfl⟩
      obtain ⟨hf, hhf⟩ : ∃ x, x = (nth l k).half := ⟨_, rfl⟩
      obtain ⟨tx, htx⟩ : ∃ x, x = (nth l k).text := ⟨_, rfl⟩
      rw [← hkd, ← hhf, ← htx] at KV0
      rw [← hkd] at e0
      rw [← hhf] at e1
      rw [← htx] at e2
      have TX := Lib.hid htx
      clear HR R hkv G hsz hkd hhf htx
      by_cases hbig : (4096 : Int) < (tx.size : Int)
      · go_wp2
        go_ret
        exact ⟨_, rfl, R0.out, fun h => absurd h (by simp)⟩
      · go_wp2_with (go_at_call 19; go_must (refine (fit_any HSZ.out _ _ _ _ _ _ _ _ KV0.out (HT.out.old R0.out)).mono ?_; rintro e w2 ⟨b2, rfl, ho, hr⟩; have R2 := Lib.hid (R0.out.trans ho); have HR2 := Lib.hid hr; clear ho hr; cases b2))
        · go_ret
          exact ⟨_, rfl, R2.out, fun h => absurd h (by simp)⟩
        · go_roundg (gk - 1)
          case measure => omega
          case rel =>
            refine ⟨k + 1, by omega, by go_num, R2.out, fun j hj => ?_⟩
            by_cases he : j = k
            · subst he
              exact ⟨HR2.out trivial, by rw [← TX.out]; omega⟩
            · exact G0.out j (by omega)
    · obtain rfl : k = l.length := by omega
      go_wp2
      go_ret
      refine ⟨_, rfl, R, fun _ x hx => ?_⟩
      obtain ⟨j, hj, rfl⟩ := List.getElem_of_mem hx
      rw [nth_eq]
      exact G j hj

/-- An error, where one is asked for. -/
theorem told_err (w : World) (d0 d1 d2 d3 d4 d5 : Value) : Calls Tryz.prog 10 #[.agg #[.int .i64 0, .int .i64 0, .string ⟨#[]⟩, .slice none 0 0, .slice none 0 0, .slice none 0 0, .int .i64 1], .agg #[d0, d1, d2, d3, d4, d5], .int .i64 1] w (TrueAns w) := by
  go_enter Tryz.func10, Tryz.ntmps10
  go_wp2
  go_ret
  exact ⟨rfl, ((Old.refl w).alloc _).alloc _⟩
end Go.Proofs.YtpoanncombcemaaGreatDoor
