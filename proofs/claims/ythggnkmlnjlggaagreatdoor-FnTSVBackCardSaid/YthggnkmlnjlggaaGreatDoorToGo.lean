/-
  A right value as the program takes it.
  Conditions: the value is right.
-/
import Derived.Test.YthggnkmlnjlggaaGreatDoorMem
namespace Go.Proofs.YthggnkmlnjlggaaGreatDoor
open Go.RowKit

theorem Tryz.infoAny : (Tryz.prog.info? 20).map (fun i => (i.zero, i.size, i.bytes)) = some (some .nilIface, 1, 16) := by kernel_rfl
def nth (l : List V) (i : Nat) : V := l.getD i V.null
theorem nth_eq (l : List V) (i : Nat) (h : i < l.length) : l[i] = nth l i := by simp [nth, h]
def jth (l : List J) (i : Nat) : J := l.getD i .nil
theorem jth_eq (l : List J) (i : Nat) (h : i < l.length) : l[i] = jth l i := by simp [jth, h]
theorem jth_map (l : List V) (i : Nat) (h : i < l.length) : jth (toJs l) i = toJ (nth l i) := by simp [jth, nth, toJs_map, h]

/-- Element k of a slice of values: where its six cells lie. -/
theorem six {w : World} {ok : Nat → Prop} {A : Option Addr} {m c : Nat} {l : List V} (h : KVs w ok l (.slice A m c)) (k : Nat) (hk : k < l.length) :
    ∃ b o c0 c1 c2 c3 c4 c5, A = some ⟨b, o, none⟩ ∧ b < w.heap.size ∧ KV w ok (nth l k) [c0, c1, c2, c3, c4, c5] ∧ w.cell? ⟨b, o + k * 6, none⟩ = some c0 ∧ w.cell? ⟨b, o + k * 6 + 1, none⟩ = some c1 ∧ w.cell? ⟨b, o + k * 6 + 2, none⟩ = some c2 ∧
      w.cell? ⟨b, o + k * 6 + 3, none⟩ = some c3 ∧ w.cell? ⟨b, o + k * 6 + 4, none⟩ = some c4 ∧ w.cell? ⟨b, o + k * 6 + 5, none⟩ = some c5 := by
  obtain ⟨C, s, r⟩ := h
  obtain ⟨b, o, hA, hb, hlen, hc⟩ := s.at_ k hk
  have hr := r k hk
  rw [nth_eq] at hr
  have h0 := hc 0 (by omega)
  have h1 := hc 1 (by omega)
  have h2 := hc 2 (by omega)
  have h3 := hc 3 (by omega)
  have h4 := hc 4 (by omega)
  have h5 := hc 5 (by omega)
  generalize C k = D at *
  match D, hlen with
  | [c0, c1, c2, c3, c4, c5], _ => exact ⟨b, o, c0, c1, c2, c3, c4, c5, hA, hb, hr, h0, h1, h2, h3, h4, h5⟩

/-- What the six cells of a value look like. -/
theorem shape {w : World} {ok : Nat → Prop} {v : V} {c0 c1 c2 c3 c4 c5 : Value} (h : KV w ok v [c0, c1, c2, c3, c4, c5]) : ∃ A1 n1 m1 A2 n2 m2 A3 n3 m3, c0 = .int .i64 v.kind ∧ c1 = .int .i64 v.half ∧ c2 = .string v.text ∧ c3 = .slice A1 n1 m1 ∧ c4 = .slice A2 n2 m2 ∧ c5 = .slice A3 n3 m3 := by
  cases h with
  | mk k h t l ks vs v1 v2 v3 C1 C3 s1 r1 s2 s3 r3 =>
    obtain ⟨A1, m1, rfl, _⟩ := s1.len
    obtain ⟨A2, m2, rfl, _⟩ := s2.len
    obtain ⟨A3, m3, rfl, _⟩ := s3.len
    exact ⟨_, _, _, _, _, _, _, _, _, rfl, rfl, rfl, rfl, rfl, rfl⟩

theorem jshape {w : World} {ok : Nat → Prop} {j : J} {x : Value} (h : KJ w ok j x) : x = .nilIface ∨ ∃ t v, x = .iface t v := by cases h <;> simp

def ToGo (w : World) (v : V) (e : Ending) (w' : World) : Prop := ∃ x, e = .returned (.tuple #[x, .bool true]) ∧ KJ w' (fun k => w.heap.size ≤ k) (toJ v) x ∧ Old w w'
def ToGos (w : World) (l : List V) (e : Ending) (w' : World) : Prop := ∃ y, e = .returned (.tuple #[y, .bool true]) ∧ KJs w' (fun k => w.heap.size ≤ k) (toJs l) y ∧ Old w w'
def Turns (v : V) : Prop := ∀ (w : World) (ok : Nat → Prop) (c0 c1 c2 c3 c4 c5 : Value), KV w ok v [c0, c1, c2, c3, c4, c5] → Calls Tryz.prog 17 #[.agg #[c0, c1, c2, c3, c4, c5]] w (ToGo w v)

/-- What has been turned so far. -/
structure Turned (w wr : World) (l : List V) (k : Nat) : Prop where
  row : ∃ cs : Array Value, Blk wr w.heap.size cs 20 ∧ cs.size = l.length ∧ ∀ j, j < k → ∃ x, cs[j]? = some x ∧ KJ wr (fun b => w.heap.size < b) (toJ (nth l j)) x
  old : Old w wr

theorem Turned.start (w : World) (l : List V) : Turned w (w.alloc (.cells (madeCells #[.nilIface] l.length) 20)) l 0 :=
  ⟨⟨_, Blk.new _ _ _, size_madeCells _ _, fun j hj => absurd hj (by omega)⟩, (Old.refl w).alloc _⟩
theorem Turned.later {w wr w2 : World} {l : List V} {k : Nat} (h : Turned w wr l k) (ho : Old wr w2) : Turned w w2 l k := by
  obtain ⟨⟨cs, hb, hs, hx⟩, hold⟩ := h
  refine ⟨⟨cs, hb.old ho, hs, fun j hj => ?_⟩, hold.trans ho⟩
  obtain ⟨x, h1, h2⟩ := hx j hj
  exact ⟨x, h1, h2.old ho⟩
theorem Turned.put {w wr : World} {l : List V} {k : Nat} {x : Value} (h : Turned w wr l k) (hk : k < l.length) (hx : KJ wr (fun b => w.heap.size < b) (toJ (nth l k)) x) : Turned w (wr.setCell ⟨w.heap.size, k, none⟩ x) l (k + 1) := by
  obtain ⟨⟨cs, hb, hs, hy⟩, hold⟩ := h
  have hc : Chg (fun b => w.heap.size < b) wr (wr.setCell ⟨w.heap.size, k, none⟩ x) := (Chg.refl _ _).setCell _ _ fun _ (h : w.heap.size < w.heap.size) => absurd h (by omega)
  refine ⟨⟨cs.setIfInBounds k x, hb.set k x, by simpa using hs, fun j hj => ?_⟩, hold.setCell (Nat.le_refl _) x⟩
  by_cases he : j = k
  · subst he
    exact ⟨x, by rw [Array.getElem?_setIfInBounds_self_of_lt (by omega)], hx.chg hc⟩
  · obtain ⟨y, h1, h2⟩ := hy j (by omega)
    exact ⟨y, by rw [Array.getElem?_setIfInBounds_ne (Ne.symm he)]; exact h1, h2.chg hc⟩
theorem Turned.cell {w wr : World} {l : List V} {k : Nat} (h : Turned w wr l k) (i : Nat) (hi : i < l.length) : (∃ y, wr.cell? ⟨w.heap.size, i, none⟩ = some y) ∧ wr.frozen? ⟨w.heap.size, i, none⟩ = false := by
  obtain ⟨⟨cs, hb, hs, _⟩, _⟩ := h
  exact ⟨⟨cs[i]'(by omega), by rw [hb.cell]; simp [hs, hi]⟩, hb.frozen i⟩
theorem Turned.done {w wr : World} {l : List V} (h : Turned w wr l l.length) : KJs wr (fun k => w.heap.size ≤ k) (toJs l) (.slice (some ⟨w.heap.size, 0, none⟩) l.length l.length) := by
  obtain ⟨⟨cs, hb, hs, hx⟩, _⟩ := h
  have hl : (toJs l).length = l.length := by rw [toJs_map, List.length_map]
  refine ⟨fun i => cs.getD i .nilIface, ?_, fun i hi => ?_⟩
  · rw [hl]
    refine ⟨_, _, rfl, Nat.le_refl _, (fun h => by (cases h)), fun _ => ⟨w.heap.size, 0, cs, _, _, rfl, Nat.le_refl _, hb, fun i hi => ⟨rfl, fun j hj => ?_⟩⟩⟩
    obtain rfl : j = 0 := by omega
    have : i < cs.size := by omega
    simp [this]
  · rw [hl] at hi
    obtain ⟨x, h1, h2⟩ := hx i hi
    have e : cs.getD i .nilIface = x := by
      rw [Array.getD_eq_getD_getElem?, h1]
      rfl
    simp only [e]
    rw [jth_eq, jth_map l i hi]
    exact h2.mono fun b (hb : w.heap.size < b) _ => by omega

set_option maxHeartbeats 1000000 in
theorem listToGo_any (l : List V) (hl : l.length ≤ 1048576) (ih : ∀ x ∈ l, Turns x) (w : World) (ok : Nat → Prop) (v1 : Value) (h : KVs w ok l v1) :
    Calls Tryz.prog 31 #[v1] w (ToGos w l) := by
  have hmk := run_make_row' (P := Tryz.prog) 59 20 .nilIface 16 Tryz.underlying59 Tryz.infoAny rfl .i64 .i64 l.length (by omega) (by omega)
  have H := Lib.hid h
  have IH := Lib.hid ih
  obtain ⟨C, s, _⟩ := h
  obtain ⟨A, c, rfl, _⟩ := s.len
  clear s ih
  go_enter Tryz.func31, Tryz.ntmps31
  go_wp2
  go_loopg [14] l.length (fun gk s14 wr => ∃ k, k + gk = l.length ∧ s14 = .int .i64 k ∧ Turned w wr l k)
  case atStart => exact ⟨0, by simp, rfl, Turned.start w l⟩
  case round =>
    obtain ⟨k, hk, rfl, R⟩ := hrel
    have HK := Lib.hid hk
    clear hmk
    by_cases hlt : k < l.length
    · have HR : KVs wr ok l (.slice A l.length c) := by
        obtain ⟨C, s, r⟩ := H.out
        exact ⟨C, s.old R.old, fun i hi => (r i hi).old R.old⟩
      obtain ⟨b, o, c0, c1, c2, c3, c4, c5, rfl, hb, hkv, e0, e1, e2, e3, e4, e5⟩ := six HR k hlt
      obtain ⟨A1, n1, m1, A2, n2, m2, A3, n3, m3, rfl, rfl, rfl, rfl, rfl, rfl⟩ := shape hkv
      have R0 := Lib.hid R
      generalize hkd : (nth l k).kind = kd at *
      generalize hhf : (nth l k).half = hf at *
      generalize htx : (nth l k).text = tx at *
      clear hkd hhf htx
      have KV0 := Lib.hid (hkv.old ((Old.refl wr).alloc (.cells #[.int .i64 kd, .int .i64 hf, .string tx, .slice A1 n1 m1, .slice A2 n2 m2, .slice A3 n3 m3] 26)))
      clear HR R hkv
      go_wp2_with (go_at_call 17; refine (IH.out _ (List.getElem_mem hlt) _ _ _ _ _ _ _ _ (by rw [nth_eq]; exact KV0.out)).mono ?_; rintro e w2 ⟨x, rfl, hx, ho⟩; have R2 := Lib.hid (R0.out.later (((Old.refl wr).alloc _).trans ho)); obtain ⟨⟨y, hy⟩, hf⟩ := R2.out.cell k hlt; have HX := Lib.hid hx; clear ho; rcases jshape hx with rfl | ⟨xt, xv, rfl⟩ <;> clear hx)
      all_goals
        go_roundg (gk - 1)
        case measure => omega
        case rel =>
          refine ⟨k + 1, by omega, by go_num, R2.out.put hlt ?_⟩
          have hj := HX.out
          rw [nth_eq] at hj
          obtain ⟨⟨cs, hbk, _⟩, _⟩ := R0.out
          have := hbk.lt
          refine KJ.mono hj fun b hb _ => ?_
          simp at hb
          omega
    · obtain rfl : k = l.length := by omega
      go_wp2
      go_ret2
      exact ⟨_, rfl, R.done, R.old⟩

end Go.Proofs.YthggnkmlnjlggaaGreatDoor
