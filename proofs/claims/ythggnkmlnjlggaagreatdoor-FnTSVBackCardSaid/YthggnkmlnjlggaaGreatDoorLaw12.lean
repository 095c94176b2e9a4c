/-
  A long list of values as the program takes it; its row.
  Conditions: the values are right.
-/
import Derived.Test.YthggnkmlnjlggaaGreatDoorAll
import Derived.Test.YthggnkmlnjlggaaGreatDoorPRow
import Derived.Test.YthggnkmlnjlggaaGreatDoorLaid
namespace Go.Proofs.YthggnkmlnjlggaaGreatDoor
open Go.RowKit

set_option maxHeartbeats 1000000 in
theorem listToGo_big (l : List V) (hl : l.length ≤ 2147483648) (ih : ∀ x ∈ l, Turns x) (w : World) (ok : Nat → Prop) (v1 : Value) (h : KVs w ok l v1) :
    Calls Tryz.prog 31 #[v1] w (ToGos w l) := by
  have hmk := run_make_row' (P := Tryz.prog) 59 20 .nilIface 16 Tryz.underlying59 Tryz.infoAny rfl .i64 .i64 l.length (by omega) (by omega)
  have H := Lib.hid h
  have IH := Lib.hid ih
  obtain ⟨C, s, _⟩ := h
  obtain ⟨A, c, rfl, _⟩ := s.len
  clear s ih
  go_enter Tryz.func31, Tryz.ntmps31
  go_wp2
  go_loopg [14] l.length (fun gk s14 wr => ∃ k, k + gk = l.length ∧ s14 = .int .i64 k ∧ Turned w wr l k)
  case atStart => exact ⟨0, by simp, rfl, Turned.start w l⟩
  case round =>
    obtain ⟨k, hk, rfl, R⟩ := hrel
    have HK := Lib.hid hk
    clear hmk
    by_cases hlt : k < l.length
    · have HR : KVs wr ok l (.slice A l.length c) := by
        obtain ⟨C, s, r⟩ := H.out
        exact ⟨C, s.old R.old, fun i hi => (r i hi).old R.old⟩
      obtain ⟨b, o, c0, c1, c2, c3, c4, c5, rfl, hb, hkv, e0, e1, e2, e3, e4, e5⟩ := six HR k hlt
      obtain ⟨A1, n1, m1, A2, n2, m2, A3, n3, m3, rfl, rfl, rfl, rfl, rfl, rfl⟩ := shape hkv
      have R0 := Lib.hid R
      generalize hkd : (nth l k).kind = kd at *
      generalize hhf : (nth l k).half = hf at *
      generalize htx : (nth l k).text = tx at *
      clear hkd hhf htx
      have KV0 := Lib.hid (hkv.old ((Old.refl wr).alloc (.cells #[.int .i64 kd, .int .i64 hf, .string tx, .slice A1 n1 m1, .slice A2 n2 m2, .slice A3 n3 m3] 26)))
      clear HR R hkv
      go_wp2_with (go_at_call 17; refine (IH.out _ (List.getElem_mem hlt) _ _ _ _ _ _ _ _ (by rw [nth_eq]; exact KV0.out)).mono ?_; rintro e w2 ⟨x, rfl, hx, ho⟩; have R2 := Lib.hid (R0.out.later (((Old.refl wr).alloc _).trans ho)); obtain ⟨⟨y, hy⟩, hf⟩ := R2.out.cell k hlt; have HX := Lib.hid hx; clear ho; rcases jshape hx with rfl | ⟨xt, xv, rfl⟩ <;> clear hx)
      all_goals
        go_roundg (gk - 1)
        case measure => omega
        case rel =>
          refine ⟨k + 1, by omega, by go_num, R2.out.put hlt ?_⟩
          have hj := HX.out
          rw [nth_eq] at hj
          obtain ⟨⟨cs, hbk, _⟩, _⟩ := R0.out
          have := hbk.lt
          refine KJ.mono hj fun b hb _ => ?_
          simp at hb
          omega
    · obtain rfl : k = l.length := by omega
      go_wp2
      go_ret2
      exact ⟨_, rfl, R.done, R.old⟩

set_option maxHeartbeats 2000000 in
theorem turns_arr (l : List V) (hl : l.length ≤ 2147483648) (ih : ∀ x ∈ l, Turns x) : Turns (V.arr l) := by
  intro w ok c0 c1 c2 c3 c4 c5 hkv
  obtain ⟨v1, v2, v3, C1, C3, hcs, s1, r1, s2, s3, r3⟩ := hkv.form
  simp only [List.cons.injEq, and_true] at hcs
  obtain ⟨rfl, rfl, rfl, rfl, rfl, rfl⟩ := hcs
  obtain ⟨A1, m1, rfl, hn1⟩ := s1.len
  obtain ⟨A2, m2, rfl, hn2⟩ := s2.len
  obtain ⟨A3, m3, rfl, hn3⟩ := s3.len
  have HL := Lib.hid (listToGo_big l hl ih _ ok _ (show KVs (w.alloc (.cells #[.int .i64 5, .int .i64 0, .string nilS, .slice A1 l.length m1, .slice A2 ([] : List ByteArray).length m2, .slice A3 ([] : List V).length m3] 26)) ok l (.slice A1 l.length m1) from ⟨C1, s1.old ((Old.refl w).alloc _), fun i hi => (r1 i hi).old ((Old.refl w).alloc _)⟩))
  have HE := Lib.hid (show toJ (V.arr l) = .arr (toJs l) by simp [V.arr, toJ])
  clear hkv s1 r1 s2 s3 r3 ih
  go_enter Tryz.func17, Tryz.ntmps17
  go_wp2_with (go_at_call 31; go_must (refine HL.out.mono ?_; rintro e w2 ⟨y, rfl, hy, ho⟩; have HY := Lib.hid hy; have HO := Lib.hid (((Old.refl w).alloc _).trans ho); have HS := Lib.hid ho.size; clear hy ho))
  go_ret2
  obtain ⟨X, s, r⟩ := HY.out
  refine ⟨_, rfl, ?_, HO.out⟩
  rw [HE.out]
  have hm : ∀ k, (w.alloc (.cells #[.int .i64 5, .int .i64 0, .string nilS, .slice A1 l.length m1, .slice A2 ([] : List ByteArray).length m2, .slice A3 ([] : List V).length m3] 26)).heap.size ≤ k → w.heap.size ≤ k := fun k hk => by simp at hk; omega
  exact .arr _ _ X (s.mono fun k hk _ => hm k hk) fun i hi => (r i hi).mono fun k hk _ => hm k hk
/-- FormatTSV of a list of plain right values. -/
theorem tsv_long {l : List V} (hl : l.length ≤ 2147483648) (hr : ∀ x ∈ l, Right x) (hk : ∀ x ∈ l, x.kind ≤ 4) (w : World) (ok : Nat → Prop) (v : Value) (h : KVs w ok l v) :
    Calls Tryz.prog 8 #[.agg #[.int .i64 5, .int .i64 0, .string ⟨#[]⟩, v, .slice none 0 0, .slice none 0 0]] w (TextAns (joinT (l.map cellT)) w) := by
  obtain ⟨C, s, r⟩ := h
  refine door_text (turns_arr l hl fun x hx => toGo_any (hr x hx).1) _ (fun W ok x hx => ?_) w ok _ _ _ _ _ _ (.mk 5 0 nilS l [] [] _ _ _ C (fun _ => []) s r (SliceV.nil _ _ _ _) (SliceV.nil _ _ _ _) (fun i hi => absurd hi (by simp)))
  have e : toJ (V.arr l) = .arr (toJs l) := by simp [V.arr, toJ]
  have hx' : KJ W ok (toJ (V.arr l)) x := hx
  rw [e] at hx'
  cases hx' with
  | arr l' y X s r => exact row_gives hl hr hk W ok y ⟨X, s, r⟩
set_option maxHeartbeats 1000000 in
set_option maxRecDepth 100000 in
/-- A text out of an answer. -/
theorem text_of (s : ByteArray) (w : World) : Calls Tryz.prog 10 #[.agg #[.int .i64 4, .int .i64 0, .string s, .slice none 0 0, .slice none 0 0, .slice none 0 0, .int .i64 0]] w fun e w' => e = .returned (.tuple #[.string s, .bool true]) ∧ Old w w' := by
  go_enter Tryz.func10, Tryz.ntmps10
  go_upto_region 1 with (fail)
  go_quiet (fail)
  go_wp2
  go_ret2
  exact ⟨rfl, ((Old.refl w).alloc _).drewN _⟩
end Go.Proofs.YthggnkmlnjlggaaGreatDoor
namespace Go.Proofs.YthggnkmlnjlggaaGreatDoor
open Go.RowKit

theorem escL_same : ∀ {l : List UInt8}, (∀ b ∈ l, esc b = [b]) → escL l = l
  | [], _ => rfl
  | a :: r, h => by
    have ih := escL_same fun b hb => h b (List.mem_cons_of_mem _ hb)
    simp only [escL, List.flatMap_cons] at *
    rw [ih, h a List.mem_cons_self]
    rfl
theorem esc_high {b : UInt8} (h : 44 < b.toNat) (h2 : b.toNat ≠ 92) : esc b = [b] := by
  unfold esc
  have n9 : b ≠ 9 := fun e => by rw [e] at h; simp at h
  have n13 : b ≠ 13 := fun e => by rw [e] at h; simp at h
  have n10 : b ≠ 10 := fun e => by rw [e] at h; simp at h
  have n92 : b ≠ 92 := fun e => by rw [e] at h2; simp at h2
  have n0 : b ≠ 0 := fun e => by rw [e] at h; simp at h
  rw [if_neg n9, if_neg n13, if_neg n10, if_neg n92, if_neg n0]
theorem high_digits (n : Nat) : ∀ b ∈ (digs n).map dsign, 44 < b.toNat ∧ b.toNat ≠ 92 := fun b hb => by
  obtain ⟨d, hd, rfl⟩ := List.mem_map.1 hb
  have := digs_lt n d hd
  rw [dsign_toNat this]
  omega
theorem high_ntext (h : Int) : ∀ b ∈ (ntext h).data.toList, 44 < b.toNat ∧ b.toNat ≠ 92 := fun b hb => by
  unfold ntext at hb
  rw [ByteArray.data_append, Array.toList_append] at hb
  rcases List.mem_append.1 hb with h | h
  · split at h
    · have : b = 45 := by simpa using h
      subst this
      decide
    · simp at h
  · unfold ptext at h
    split at h
    · exact high_digits _ b h
    · unfold htext at h
      rcases List.mem_append.1 h with h | h
      · exact high_digits _ b h
      · have : b = 46 ∨ b = 53 := by simpa using h
        rcases this with rfl | rfl <;> decide
theorem escS_of {s : ByteArray} (h : ∀ b ∈ s.data.toList, 44 < b.toNat ∧ b.toNat ≠ 92) : escS s = s := by
  unfold escS
  rw [escL_same fun b hb => esc_high (h b hb).1 (h b hb).2]
/-- What stands in a row is its text, escaped. -/
theorem cellT_esc {v : V} (hr : Right v) (hk : v.kind ≤ 4) : cellT v = escS (bareT v) := by
  have h0 := (right_kind hr).1
  unfold cellT bareT plainT
  rcases (show v.kind = 0 ∨ v.kind = 1 ∨ v.kind = 2 ∨ v.kind = 3 ∨ v.kind = 4 by omega) with h | h | h | h | h
  · simp only [h]
    rfl
  · simp only [h]
    rfl
  · simp only [h]
    rfl
  · simp only [h]
    exact (escS_of (high_ntext _)).symm
  · simp only [h]
    rfl
/-- No byte 0 in a text of a row. -/
theorem bare_free {v : V} (hr : Right v) (hk : v.kind ≤ 4) (hz : Zfree v.text) : ∀ b ∈ (bareT v).data.toList, b ≠ 0 := by
  have h0 := (right_kind hr).1
  have key : ∀ s : ByteArray, (∀ b ∈ s.data.toList, 44 < b.toNat ∧ b.toNat ≠ 92) → ∀ b ∈ s.data.toList, b ≠ 0 := fun s hs b hb e => by
    have := (hs b hb).1
    rw [e] at this
    simp at this
  rcases (show v.kind = 0 ∨ v.kind = 1 ∨ v.kind = 2 ∨ v.kind = 3 ∨ v.kind = 4 by omega) with h | h | h | h | h
  · have e : bareT v = nilS := by
      unfold bareT plainT
      simp only [h]
      rfl
    rw [e]
    exact fun b hb => by simp [nilS] at hb
  · have e : bareT v = falseS := by
      unfold bareT plainT
      simp only [h]
      rfl
    rw [e]
    exact key _ (by decide)
  · have e : bareT v = trueS := by
      unfold bareT plainT
      simp only [h]
      rfl
    rw [e]
    exact key _ (by decide)
  · have e : bareT v = ntext v.half := by
      unfold bareT plainT
      simp only [h]
      rfl
    rw [e]
    exact key _ (high_ntext _)
  · have e : bareT v = v.text := by
      unfold bareT plainT
      simp only [h]
      rfl
    rw [e]
    intro b hb
    obtain ⟨k, hk, rfl⟩ := List.getElem_of_mem hb
    have := hz k (by simpa using hk)
    rwa [List.getD_eq_getElem?_getD, List.getElem?_eq_getElem hk] at this
/-- A row that is read: what has been read, what is left of the text at hand, what is left. -/
structure Read (ts : List ByteArray) (D : List UInt8) (i : Nat) (done : List ByteArray) (cur rem : List UInt8) (rest : List ByteArray) : Prop where
  all : ts = done ++ ⟨(cur ++ rem).toArray⟩ :: rest
  left : D.drop i = escL rem ++ tailL (rest.map escS)
theorem Read.start (t : ByteArray) (r : List ByteArray) : Read (t :: r) (joinT ((t :: r).map escS)).data.toList 0 [] [] t.data.toList r := by
  refine ⟨?_, ?_⟩
  · obtain ⟨⟨l⟩⟩ := t
    rfl
  · rw [List.drop_zero, List.map_cons]
    rfl
section
variable {ts : List ByteArray} {D : List UInt8} {i : Nat} {done : List ByteArray} {cur rem : List UInt8} {rest : List ByteArray}
theorem drop_cons {x : UInt8} {y : List UInt8} (h : D.drop i = x :: y) : i < D.length ∧ D.getD i 0 = x ∧ D.drop (i + 1) = y := by
  have hl : i < D.length := by
    rcases Nat.lt_or_ge i D.length with h1 | h1
    · exact h1
    · rw [List.drop_eq_nil_of_le h1] at h
      cases h
  rw [List.drop_eq_getElem_cons hl] at h
  injection h with h1 h2
  exact ⟨hl, by rw [List.getD_eq_getElem?_getD, List.getElem?_eq_getElem hl]; exact h1, h2⟩
/-- A byte that stands for itself. -/
theorem Read.plain {b : UInt8} {r : List UInt8} (h : Read ts D i done cur (b :: r) rest) (he : esc b = [b]) : i < D.length ∧ D.getD i 0 = b ∧ Read ts D (i + 1) done (cur ++ [b]) r rest := by
  have hl := h.left
  simp only [escL, List.flatMap_cons, he, List.cons_append, List.nil_append] at hl
  obtain ⟨h1, h2, h3⟩ := drop_cons hl
  exact ⟨h1, h2, by rw [h.all]; simp, h3⟩
/-- A byte that is escaped. -/
theorem Read.escaped {b c : UInt8} {r : List UInt8} (h : Read ts D i done cur (b :: r) rest) (he : esc b = [92, c]) : i + 1 < D.length ∧ D.getD i 0 = 92 ∧ D.getD (i + 1) 0 = c ∧ Read ts D (i + 2) done (cur ++ [b]) r rest := by
  have hl := h.left
  simp only [escL, List.flatMap_cons, he, List.cons_append, List.nil_append] at hl
  obtain ⟨h1, h2, h3⟩ := drop_cons hl
  obtain ⟨h4, h5, h6⟩ := drop_cons h3
  exact ⟨h4, h2, h5, by rw [h.all]; simp, h6⟩
/-- A text's end, where another one follows. -/
theorem Read.next {t : ByteArray} {r : List ByteArray} (h : Read ts D i done cur [] (t :: r)) : i < D.length ∧ D.getD i 0 = 9 ∧ Read ts D (i + 1) (done ++ [⟨cur.toArray⟩]) [] t.data.toList r := by
  have hl := h.left
  have e : D.drop i = 9 :: (escL t.data.toList ++ tailL (r.map escS)) := by rw [hl]; rfl
  obtain ⟨h1, h2, h3⟩ := drop_cons e
  refine ⟨h1, h2, ?_, h3⟩
  rw [h.all]
  obtain ⟨⟨l⟩⟩ := t
  simp
/-- The end. -/
theorem Read.last (h : Read ts D i done cur [] []) : D.length ≤ i ∧ ts = done ++ [⟨cur.toArray⟩] := by
  have hl := h.left
  have e : D.drop i = [] := by rw [hl]; rfl
  refine ⟨List.drop_eq_nil_iff.1 e, ?_⟩
  rw [h.all]
  simp
theorem Read.size (h : Read ts D i done cur rem rest) (B : Nat) (hB : ∀ t ∈ ts, t.size ≤ B) : cur.length + rem.length ≤ B ∧ done.length + 1 + rest.length = ts.length := by
  have h1 := hB ⟨(cur ++ rem).toArray⟩ (by rw [h.all]; simp)
  have e : (ByteArray.mk (cur ++ rem).toArray).size = (cur ++ rem).length := List.size_toArray
  rw [e, List.length_append] at h1
  refine ⟨h1, ?_⟩
  rw [h.all, List.length_append, List.length_cons]
  omega
theorem Read.free (h : Read ts D i done cur rem rest) (hz : ∀ t ∈ ts, ∀ b ∈ t.data.toList, b ≠ 0) : ∀ b ∈ rem, b ≠ 0 := fun b hb =>
  hz ⟨(cur ++ rem).toArray⟩ (by rw [h.all]; simp) b (by simp [hb])
end
/-- The texts that have been read, as they lie in memory. -/
def readRow (done : List ByteArray) (cur : List UInt8) : List Value := done.map Value.string ++ [.string ⟨cur.toArray⟩]
end Go.Proofs.YthggnkmlnjlggaaGreatDoor
namespace Go.Proofs.YthggnkmlnjlggaaGreatDoor
open Go.RowKit
attribute [local go_sem ↓] Go.wp_at_zero Go.wp_at_succ

theorem readRow_set (done : List ByteArray) (cur cur' : List UInt8) : (readRow done cur).set done.length (.string ⟨cur'.toArray⟩) = readRow done cur' := by
  unfold readRow
  rw [List.set_append_right _ _ (by simp)]
  simp
theorem readRow_at (done : List ByteArray) (cur : List UInt8) : (readRow done cur)[done.length]? = some (.string ⟨cur.toArray⟩) := by
  unfold readRow
  rw [List.getElem?_append_right (by simp)]
  simp
theorem readRow_next (done : List ByteArray) (cur : List UInt8) : readRow (done ++ [⟨cur.toArray⟩]) [] = readRow done cur ++ [.string ⟨#[]⟩] := by
  simp [readRow]
theorem Read.over {ts : List ByteArray} {D : List UInt8} {i : Nat} {done : List ByteArray} {cur rem : List UInt8} {rest : List ByteArray} (h : Read ts D i done cur rem rest) (hi : D.length ≤ i) : rem = [] ∧ rest = [] := by
  have hl := h.left
  rw [List.drop_eq_nil_of_le hi] at hl
  have h2 := hl.symm
  rw [List.append_eq_nil_iff] at h2
  refine ⟨?_, ?_⟩
  · cases rem with
    | nil => rfl
    | cons b r =>
      have h3 := h2.1
      simp only [escL, List.flatMap_cons, List.append_eq_nil_iff] at h3
      have h4 := h3.1
      unfold esc at h4
      repeat' split at h4
      all_goals simp at h4
  · cases rest with
    | nil => rfl
    | cons t r =>
      have h3 := h2.2
      simp [tailL] at h3
theorem own_some {w : World} {base n : Nat} {e : TypeId} {v : Value} {xs : List Value} (h : w.ownsRow base e 1 v n xs) (hn : 0 < n) : ∃ g cap, v = .slice (some ⟨g, 0, none⟩) n cap ∧ n ≤ cap := by
  obtain ⟨_, h2 | ⟨g, cap, cur, h2, _, _, h5, _⟩⟩ := h
  · omega
  · exact ⟨g, cap, h2, h5⟩
theorem rows_same {l : List V} {done : List ByteArray} {cur : List UInt8} (h : l.map bareT = done ++ [⟨cur.toArray⟩]) : readRow done cur = (l.map bareT).map Value.string ∧ rowTexts l = (l.map bareT).map Value.string := by
  rw [h]
  refine ⟨by simp [readRow], ?_⟩
  rw [← h]
  simp [rowTexts]
theorem not_byte {b k : UInt8} (h : b ≠ k) : ((⟨#[b]⟩ : ByteArray).toList == [k]) = false := by
  rw [Lib.toList_data]
  simpa using h
set_option maxHeartbeats 32000000 in
set_option maxRecDepth 100000 in
theorem law12_any {l : List V} (hz : ∀ x ∈ l, Sized x) (hb : l.length ≤ 9223372036854775807) (w : World) (ok : Nat → Prop) (v : Value) (h : KVs w ok l v) (hT : Tabs w) :
    Calls Tryz.prog 4 #[v] w (Yes w) := by
  have HK0 := Lib.hid h
  obtain ⟨C, s, r⟩ := h
  obtain ⟨A, c, rfl, hcap⟩ := s.len
  have HF := Lib.hid (fine_any hz hb w ok _ HK0.out hT)
  clear s r hz hT
  obtain ⟨n, hn⟩ : ∃ n, n = l.length := ⟨_, rfl⟩
  rw [← hn] at HK0 HF hcap hb ⊢
  have HN := Lib.hid hn
  clear hn
  by_cases hbig : (2147483647 : Int) < (n : Int)
  · go_enter Tryz.func4, Tryz.ntmps4
    go_wp2
    go_ret
    exact ⟨rfl, Old.refl w⟩
  · obtain ⟨iv, hi, hz0, hz1, hz2⟩ := info_parts Tryz.infoStr
    have HI := Lib.hid hi
    have HZ0 := Lib.hid hz0
    have HZ1 := Lib.hid hz1
    have HZ2 := Lib.hid hz2
    clear hi hz0 hz1 hz2
    go_enter Tryz.func4, Tryz.ntmps4
    go_upto_region 5 with (go_at_call 6; go_must (refine HF.out.mono ?_; rintro e w2 ⟨b2, rfl, ho2, hg2⟩; have HO2 := Lib.hid ho2; have HG := Lib.hid hg2; clear ho2 hg2; cases b2))
    · go_ret
      exact ⟨rfl, HO2.out⟩
    · have HKW := Lib.hid (fun W (hW : Old w W) => (show KVs W ok l (.slice A n c) from by obtain ⟨C, s, r⟩ := HK0.out; exact ⟨C, s.old hW, fun i hi => (r i hi).old hW⟩))
      have HPR := Lib.hid (plain_row l (by rw [← HN.out]; omega) (fun x hx => ⟨(HG.out trivial x hx).1, (HG.out trivial x hx).2.2⟩) w2 ok _ (HKW.out w2 HO2.out))
      go_upto_region 8 with (go_at_call 9; go_must (refine HPR.out.mono ?_; rintro e w3 ⟨⟨u3, rfl, hpos, hpl, hown⟩ | ⟨u3, rfl⟩, ho3⟩ <;> have HO3 := Lib.hid (HO2.out.trans ho3) <;> clear ho3))
      · have HPL := Lib.hid hpl
        rw [← HN.out] at hpos hown
        obtain ⟨g3, c3, rfl, hc3⟩ := own_some hown hpos
        have HW3 := Lib.hid hown
        clear hpl hown
        have HTS := Lib.hid (tsv_long (by rw [← HN.out]; omega) (fun x hx => (HG.out trivial x hx).1) (fun x hx => (HPL.out x hx).1) w3 ok _ (HKW.out w3 HO3.out))
        obtain ⟨S, hS⟩ : ∃ S, S = joinT (l.map cellT) := ⟨_, rfl⟩
        rw [← hS] at HTS
        have hesc : l.map cellT = (l.map bareT).map escS := by
          rw [List.map_map]
          exact List.map_congr_left fun x hx => cellT_esc (HG.out trivial x hx).1 (HPL.out x hx).1
        rw [hesc] at hS
        have hSz : S.size ≤ 35184372088832 := by
          have h1 := joinT_size (B := 4000) (xs := (l.map bareT).map escS) (fun x hx => by
            obtain ⟨y, hy, rfl⟩ := List.mem_map.1 hx
            obtain ⟨z, hz, rfl⟩ := List.mem_map.1 hy
            have h2 := escS_size (bareT z)
            have h3 := bareT_size (HG.out trivial z hz).1
            omega)
          rw [← hS, List.length_map, List.length_map, ← HN.out] at h1
          have h4 : n * (4000 + 1) ≤ 2147483647 * (4000 + 1) := Nat.mul_le_mul_right _ (by omega)
          omega
        obtain ⟨ts, hts⟩ : ∃ ts, ts = l.map bareT := ⟨_, rfl⟩
        have HTSS := Lib.hid hts
        have HSE := Lib.hid (show S = joinT (ts.map escS) by rw [hS, hts])
        have HLEN := Lib.hid (show ts.length = n by rw [hts, List.length_map, HN.out])
        have HB := Lib.hid (show ∀ t ∈ ts, t.size ≤ 2000 from fun t ht => by
          rw [hts] at ht
          obtain ⟨z, hz, rfl⟩ := List.mem_map.1 ht
          exact bareT_size (HG.out trivial z hz).1)
        have HFR := Lib.hid (show ∀ t ∈ ts, ∀ b ∈ t.data.toList, b ≠ 0 from fun t ht => by
          rw [hts] at ht
          obtain ⟨z, hz, rfl⟩ := List.mem_map.1 ht
          exact bare_free (HG.out trivial z hz).1 (HPL.out z hz).1 (HPL.out z hz).2)
        have HDL := Lib.hid (show S.data.toList.length = S.size by simp)
        have HOB := Lib.hid (fun k hk => one_byte S k hk)
        clear hS hesc hts
        go_upto_region 11 with (first
          | (go_at_call 8; go_must (refine HTS.out.mono ?_; rintro e w4 ⟨rfl, ho4⟩; have HO4 := Lib.hid ho4; clear ho4))
          | (go_at_call 10; go_must (refine (text_of S _).mono ?_; rintro e w5 ⟨rfl, ho5⟩; have HO5 := Lib.hid (HO4.out.trans ho5); clear ho5)))
        have hst : ∃ t r, ts = t :: r := by
          cases hx : ts with
          | nil =>
            have := HLEN.out
            rw [hx] at this
            simp at this
            omega
          | cons t r => exact ⟨t, r, rfl⟩
        obtain ⟨t0, r0, ht0⟩ := hst
        have HRD0 := Lib.hid (show Read ts S.data.toList 0 [] [] t0.data.toList r0 by
          rw [HSE.out, ht0]
          exact Read.start t0 r0)
        clear ht0
        go_wp2
        go_loopg [7, 8] S.size (fun gk s7 s8 wr => ∃ i done cur rem rest u, i + gk = S.size ∧ s7 = u ∧ s8 = .int .i64 (i : Nat) ∧ Read ts S.data.toList i done cur rem rest ∧ wr.ownsRow w5.heap.size 9 1 u (done.length + 1) (readRow done cur) ∧ Old w5 wr)
        case atStart => exact ⟨0, [], [], _, _, _, by omega, rfl, by go_num, HRD0.out, World.ownsRow_lit w5 #[.string ⟨#[]⟩] 1 (Nat.le_refl _) (by decide) rfl, (Old.refl w5).alloc _⟩
        case round =>
          obtain ⟨i, done, cur, rem, rest, u, hi, rfl, rfl, hrd, hown, hold⟩ := hrel
          obtain ⟨g, cg, rfl, hcg⟩ := own_some hown (Nat.succ_pos _)
          have HRD := Lib.hid hrd
          have HW := Lib.hid hown
          have HO := Lib.hid hold
          have hsz := hrd.size 2000 HB.out
          obtain ⟨hsz1, hsz2⟩ := hsz
          have hdn : done.length + 1 ≤ n := by have := HLEN.out; omega
          obtain ⟨hcd, hfd, hgl⟩ := own_at hown (readRow_at done cur)
          have HRS := Lib.hid (readRow_set done cur)
          have HRN := Lib.hid (readRow_next done cur)
          have HDN := Lib.hid (show done.length = done.length from rfl)
          clear hrd hown hold
          obtain ⟨d, hd⟩ : ∃ d, d = done.length := ⟨_, rfl⟩
          have HD := Lib.hid hd
          rw [← hd] at hcg hsz2 hdn hcd hfd HW HRS ⊢
          clear hd HDN
          have HGE := Lib.hid (show w5.heap.size ≤ g from (own_lt (b := g) HW.out rfl).1)
          have w1 : IntKind.i64.wrap ((d : Int) + 1 - 1) = (d : Int) := by rw [Int.add_sub_cancel]; exact IntWalk.i64_in _ (by omega)
          have w2 : IntKind.i64.wrap (d : Int) = (d : Int) := IntWalk.i64_in _ (by omega)
          have hdc : (d : Int) < (d : Int) + 1 := by omega
          have hd0 : (0 : Int) ≤ (d : Int) := by omega
          have u1 : IntKind.i64.wrap ((i : Int) + 1) = (i : Int) + 1 := IntWalk.i64_in _ (by omega)
          by_cases hlt : i < S.size
          · have hil : (i : Int) < (S.size : Nat) := by omega
            have hob := HOB.out i hlt
            match rem, rest, HRD with
            | [], [], HRD =>
              have := HRD.out.last.1
              rw [HDL.out] at this
              omega
            | [], t :: r, HRD =>
              obtain ⟨_, hb9, hnx⟩ := HRD.out.next
              rw [hb9] at hob
              obtain ⟨dn2, hdn2⟩ : ∃ x, x = done ++ [(⟨cur.toArray⟩ : ByteArray)] := ⟨_, rfl⟩
              rw [← hdn2] at hnx
              have HNX := Lib.hid hnx
              have HRN2 := Lib.hid (show readRow dn2 [] = readRow done cur ++ [.string ⟨#[]⟩] by rw [hdn2]; exact HRN.out)
              have HDL2 := Lib.hid (show dn2.length = d + 1 by rw [hdn2, List.length_append, List.length_singleton, ← HD.out])
              clear hb9 hnx hcd hfd w1 w2 hdn2
              go_wp2_with (at_builtin; go_must (refine wpList_append_lies _ rfl _ _ _ rfl w5.heap.size 9 iv _ 1 16 Tryz.underlying24 HI.out HZ0.out HZ1.out HZ2.out rfl (by decide) (.slice (some ⟨g, 0, none⟩) (d + 1) cg) (d + 1) (readRow done cur) rfl (own_old HW.out ((Old.refl _).alloc _)) ⟨wr.heap.size, 0, none⟩ 1 1 [.string ⟨#[]⟩] rfl rfl (news_blk (cs := #[.string ⟨#[]⟩]) (Blk.new wr _ _)) (one_one rfl) (by decide) (by unfold maxLen; omega) (by omega) (by have h1 := Old.size HO.out; simp; omega) (wr.heap.size + 1) (by simp) ?_; intro gn cap w7 hown hgrow _ _; have REL := Lib.hid (show w7.ownsRow w5.heap.size 9 1 (.slice (some ⟨gn, 0, none⟩) (d + 1 + 1) cap) (dn2.length + 1) (readRow dn2 []) ∧ Old w5 w7 from ⟨by rw [HRN2.out, HDL2.out]; exact hown, ((HO.out).alloc _).grown hgrow fun b hb => (own_lt HW.out hb).1⟩); clear hown hgrow))
              go_roundg (gk - 1)
              case measure => omega
              case rel => exact ⟨i + 1, _, [], _, r, _, by omega, rfl, by go_num, HNX.out, REL.out.1, REL.out.2⟩
            | b :: rr, rest, HRD =>
              have hfree := HRD.out.free HFR.out b List.mem_cons_self
              by_cases hb : b = 9
              · subst hb
                obtain ⟨hl2, h92, hc2, hesc⟩ := HRD.out.escaped (show esc 9 = [92, 116] from rfl)
                rw [h92] at hob
                rw [HDL.out] at hl2
                have hob2 := HOB.out (i + 1) hl2
                rw [hc2] at hob2
                have HES := Lib.hid hesc
                have hil2 : (i : Int) + 1 < (S.size : Nat) := by omega
                have u2 : IntKind.i64.wrap ((i : Int) + 1 + 1) = (i : Int) + 1 + 1 := IntWalk.i64_in _ (by omega)
                clear h92 hc2 hesc hfree
                have hadd := fun W => run_string_add_sum (P := Tryz.prog) W ⟨cur.toArray⟩ ⟨#[9]⟩ (by have h1 : (⟨#[9]⟩ : ByteArray).size = 1 := rfl; have h2 : (ByteArray.mk cur.toArray).size = cur.length := (by simp [ByteArray.size]); omega)
                have hcat : (⟨cur.toArray⟩ : ByteArray) ++ ⟨#[9]⟩ = ⟨(cur ++ [9]).toArray⟩ := by rw [ByteArray.mk_append_mk]
                have REL := Lib.hid (show (wr.setCell ⟨g, d, none⟩ (.string ((⟨cur.toArray⟩ : ByteArray) ++ ⟨#[9]⟩))).ownsRow w5.heap.size 9 1 (.slice (some ⟨g, 0, none⟩) (d + 1) cg) (done.length + 1) (readRow done (cur ++ [9])) ∧ Old w5 (wr.setCell ⟨g, d, none⟩ (.string ((⟨cur.toArray⟩ : ByteArray) ++ ⟨#[9]⟩))) from ⟨by rw [hcat, ← HD.out, ← HRS.out]; exact own_store HW.out _, Old.setCell (p := ⟨g, d, none⟩) HO.out HGE.out _⟩)
                clear hcat
                go_wp2
                go_roundg (gk - 2)
                case measure => omega
                case rel => exact ⟨i + 2, done, _, rr, rest, _, by omega, rfl, by go_num, HES.out, REL.out.1, REL.out.2⟩
              · have n9 : b ≠ 9 := hb
                clear hb
                by_cases hb : b = 13
                · subst hb
                  obtain ⟨hl2, h92, hc2, hesc⟩ := HRD.out.escaped (show esc 13 = [92, 114] from rfl)
                  rw [h92] at hob
                  rw [HDL.out] at hl2
                  have hob2 := HOB.out (i + 1) hl2
                  rw [hc2] at hob2
                  have HES := Lib.hid hesc
                  have hil2 : (i : Int) + 1 < (S.size : Nat) := by omega
                  have u2 : IntKind.i64.wrap ((i : Int) + 1 + 1) = (i : Int) + 1 + 1 := IntWalk.i64_in _ (by omega)
                  clear h92 hc2 hesc hfree
                  have hadd := fun W => run_string_add_sum (P := Tryz.prog) W ⟨cur.toArray⟩ ⟨#[13]⟩ (by have h1 : (⟨#[13]⟩ : ByteArray).size = 1 := rfl; have h2 : (ByteArray.mk cur.toArray).size = cur.length := (by simp [ByteArray.size]); omega)
                  have hcat : (⟨cur.toArray⟩ : ByteArray) ++ ⟨#[13]⟩ = ⟨(cur ++ [13]).toArray⟩ := by rw [ByteArray.mk_append_mk]
                  have REL := Lib.hid (show (wr.setCell ⟨g, d, none⟩ (.string ((⟨cur.toArray⟩ : ByteArray) ++ ⟨#[13]⟩))).ownsRow w5.heap.size 9 1 (.slice (some ⟨g, 0, none⟩) (d + 1) cg) (done.length + 1) (readRow done (cur ++ [13])) ∧ Old w5 (wr.setCell ⟨g, d, none⟩ (.string ((⟨cur.toArray⟩ : ByteArray) ++ ⟨#[13]⟩))) from ⟨by rw [hcat, ← HD.out, ← HRS.out]; exact own_store HW.out _, Old.setCell (p := ⟨g, d, none⟩) HO.out HGE.out _⟩)
                  clear hcat
                  go_wp2
                  go_roundg (gk - 2)
                  case measure => omega
                  case rel => exact ⟨i + 2, done, _, rr, rest, _, by omega, rfl, by go_num, HES.out, REL.out.1, REL.out.2⟩
                · have n13 : b ≠ 13 := hb
                  clear hb
                  by_cases hb : b = 10
                  · subst hb
                    obtain ⟨hl2, h92, hc2, hesc⟩ := HRD.out.escaped (show esc 10 = [92, 110] from rfl)
                    rw [h92] at hob
                    rw [HDL.out] at hl2
                    have hob2 := HOB.out (i + 1) hl2
                    rw [hc2] at hob2
                    have HES := Lib.hid hesc
                    have hil2 : (i : Int) + 1 < (S.size : Nat) := by omega
                    have u2 : IntKind.i64.wrap ((i : Int) + 1 + 1) = (i : Int) + 1 + 1 := IntWalk.i64_in _ (by omega)
                    clear h92 hc2 hesc hfree
                    have hadd := fun W => run_string_add_sum (P := Tryz.prog) W ⟨cur.toArray⟩ ⟨#[10]⟩ (by have h1 : (⟨#[10]⟩ : ByteArray).size = 1 := rfl; have h2 : (ByteArray.mk cur.toArray).size = cur.length := (by simp [ByteArray.size]); omega)
                    have hcat : (⟨cur.toArray⟩ : ByteArray) ++ ⟨#[10]⟩ = ⟨(cur ++ [10]).toArray⟩ := by rw [ByteArray.mk_append_mk]
                    have REL := Lib.hid (show (wr.setCell ⟨g, d, none⟩ (.string ((⟨cur.toArray⟩ : ByteArray) ++ ⟨#[10]⟩))).ownsRow w5.heap.size 9 1 (.slice (some ⟨g, 0, none⟩) (d + 1) cg) (done.length + 1) (readRow done (cur ++ [10])) ∧ Old w5 (wr.setCell ⟨g, d, none⟩ (.string ((⟨cur.toArray⟩ : ByteArray) ++ ⟨#[10]⟩))) from ⟨by rw [hcat, ← HD.out, ← HRS.out]; exact own_store HW.out _, Old.setCell (p := ⟨g, d, none⟩) HO.out HGE.out _⟩)
                    clear hcat
                    go_wp2
                    go_roundg (gk - 2)
                    case measure => omega
                    case rel => exact ⟨i + 2, done, _, rr, rest, _, by omega, rfl, by go_num, HES.out, REL.out.1, REL.out.2⟩
                  · have n10 : b ≠ 10 := hb
                    clear hb
                    by_cases hb : b = 92
                    · subst hb
                      obtain ⟨hl2, h92, hc2, hesc⟩ := HRD.out.escaped (show esc 92 = [92, 92] from rfl)
                      rw [h92] at hob
                      rw [HDL.out] at hl2
                      have hob2 := HOB.out (i + 1) hl2
                      rw [hc2] at hob2
                      have HES := Lib.hid hesc
                      have hil2 : (i : Int) + 1 < (S.size : Nat) := by omega
                      have u2 : IntKind.i64.wrap ((i : Int) + 1 + 1) = (i : Int) + 1 + 1 := IntWalk.i64_in _ (by omega)
                      clear h92 hc2 hesc hfree
                      have hadd := fun W => run_string_add_sum (P := Tryz.prog) W ⟨cur.toArray⟩ ⟨#[92]⟩ (by have h1 : (⟨#[92]⟩ : ByteArray).size = 1 := rfl; have h2 : (ByteArray.mk cur.toArray).size = cur.length := (by simp [ByteArray.size]); omega)
                      have hcat : (⟨cur.toArray⟩ : ByteArray) ++ ⟨#[92]⟩ = ⟨(cur ++ [92]).toArray⟩ := by rw [ByteArray.mk_append_mk]
                      have REL := Lib.hid (show (wr.setCell ⟨g, d, none⟩ (.string ((⟨cur.toArray⟩ : ByteArray) ++ ⟨#[92]⟩))).ownsRow w5.heap.size 9 1 (.slice (some ⟨g, 0, none⟩) (d + 1) cg) (done.length + 1) (readRow done (cur ++ [92])) ∧ Old w5 (wr.setCell ⟨g, d, none⟩ (.string ((⟨cur.toArray⟩ : ByteArray) ++ ⟨#[92]⟩))) from ⟨by rw [hcat, ← HD.out, ← HRS.out]; exact own_store HW.out _, Old.setCell (p := ⟨g, d, none⟩) HO.out HGE.out _⟩)
                      clear hcat
                      go_wp2
                      go_roundg (gk - 2)
                      case measure => omega
                      case rel => exact ⟨i + 2, done, _, rr, rest, _, by omega, rfl, by go_num, HES.out, REL.out.1, REL.out.2⟩
                    · have n92 : b ≠ 92 := hb
                      clear hb
                      have he : esc b = [b] := by unfold esc; rw [if_neg n9, if_neg n13, if_neg n10, if_neg n92, if_neg hfree]
                      obtain ⟨_, hbb, hnx⟩ := HRD.out.plain he
                      rw [hbb] at hob
                      have HNX := Lib.hid hnx
                      obtain ⟨x, hx⟩ : ∃ x, x = S.extract i (i + 1) := ⟨_, rfl⟩
                      rw [← hx] at hob
                      have hxe := hx.symm
                      have HX := Lib.hid hob
                      have HX1 := Lib.hid (show x.size = 1 by rw [hob]; rfl)
                      have q9 : (x.toList == [9]) = false := by rw [hob]; exact not_byte n9
                      have q10 : (x.toList == [10]) = false := by rw [hob]; exact not_byte n10
                      have q13 : (x.toList == [13]) = false := by rw [hob]; exact not_byte n13
                      have q92 : (x.toList == [92]) = false := by rw [hob]; exact not_byte n92
                      clear hbb hnx hx hob n9 n13 n10 n92 he hfree
                      have hadd := fun W => run_string_add_sum (P := Tryz.prog) W ⟨cur.toArray⟩ x (by have h1 : (x : ByteArray).size = 1 := HX1.out; have h2 : (ByteArray.mk cur.toArray).size = cur.length := (by simp [ByteArray.size]); omega)
                      have hcat : (⟨cur.toArray⟩ : ByteArray) ++ x = ⟨(cur ++ [b]).toArray⟩ := by rw [HX.out, ByteArray.mk_append_mk]
                      have REL := Lib.hid (show (wr.setCell ⟨g, d, none⟩ (.string ((⟨cur.toArray⟩ : ByteArray) ++ x))).ownsRow w5.heap.size 9 1 (.slice (some ⟨g, 0, none⟩) (d + 1) cg) (done.length + 1) (readRow done (cur ++ [b])) ∧ Old w5 (wr.setCell ⟨g, d, none⟩ (.string ((⟨cur.toArray⟩ : ByteArray) ++ x))) from ⟨by rw [hcat, ← HD.out, ← HRS.out]; exact own_store HW.out _, Old.setCell (p := ⟨g, d, none⟩) HO.out HGE.out _⟩)
                      clear hcat
                      go_wp2
                      go_roundg (gk - 1)
                      case measure => omega
                      case rel => exact ⟨i + 1, done, _, rr, rest, _, by omega, rfl, by go_num, HNX.out, REL.out.1, REL.out.2⟩
          · have hov := HRD.out.over (by rw [HDL.out]; omega)
            obtain ⟨rfl, rfl⟩ := hov
            obtain ⟨_, hlast⟩ := HRD.out.last
            have hdn2 : d + 1 = n := by
              have h1 := HLEN.out
              rw [hlast, List.length_append, List.length_singleton, ← HD.out] at h1
              exact h1
            rw [HTSS.out] at hlast
            obtain ⟨hr1, hr2⟩ := rows_same hlast
            have HR1 := Lib.hid hr1
            have HR2 := Lib.hid hr2
            clear hcd hfd w1 w2 hlast hr1 hr2 hdc hd0 hsz1 hsz2 u1 hdn
            subst hdn2
            have HC1 := Lib.hid (fun k hk => row_cell (ks := l.map bareT) (by rw [← HR1.out]; exact HW.out) k hk)
            have HC2 := Lib.hid (fun k hk => row_cell (ks := l.map bareT) (by rw [← HR2.out]; exact own_old HW3.out (HO5.out.trans HO.out)) k hk)
            have hgl3 : g3 < wr.heap.size := (own_lt (own_old HW3.out (HO5.out.trans HO.out)) rfl).2
            have HLM := Lib.hid (show (l.map bareT).length = d + 1 by rw [List.length_map, ← HN.out])
            obtain ⟨wo, hwo⟩ : ∃ wo : World, wo = wr := ⟨_, rfl⟩
            subst hwo
            go_wp2
            clear hi hlt
            go_loopg [10] (d + 1) (fun gk s10 wr => ∃ k, k + gk = d + 1 ∧ s10 = .int .i64 (k : Nat) ∧ Old wo wr)
            case atStart => exact ⟨0, by omega, by go_num, Old.refl _⟩
            case round =>
              obtain ⟨k, hk, rfl, hold⟩ := hrel
              have HOK := Lib.hid hold
              by_cases hkn : k < d + 1
              · have a1 := hold.cell (HC1.out k (by rw [HLM.out]; exact hkn))
                have a2 := hold.cell (HC2.out k (by rw [HLM.out]; exact hkn))
                obtain ⟨y, hy⟩ : ∃ y, y = (l.map bareT).getD k nilS := ⟨_, rfl⟩
                rw [← hy] at a1 a2
                have hyy : (y.toList == y.toList) = true := beq_self_eq_true _
                have k1 : (k : Int) < (d : Int) + 1 := by omega
                have k0 : (0 : Int) ≤ (k : Int) := by omega
                have v1 : IntKind.i64.wrap ((k : Int) + 1) = (k : Int) + 1 := IntWalk.i64_in _ (by omega)
                have g1 : g < wr.heap.size := Nat.lt_of_lt_of_le hgl hold.size
                have g2 : g3 < wr.heap.size := Nat.lt_of_lt_of_le hgl3 hold.size
                clear hy hold hyy
                go_upto_region 36 with (fail)
                go_quiet (fail)
                go_wp2
                go_roundg (gk - 1)
                case measure => omega
                case rel => exact ⟨k + 1, by omega, by go_num, HOK.out.drewN _⟩
              · obtain rfl : k = d + 1 := by omega
                clear hk hkn hold
                go_wp2
                go_ret
                exact ⟨rfl, HO3.out.trans (HO5.out.trans (HO.out.trans HOK.out))⟩
      · go_wp2
        go_ret
        exact ⟨rfl, HO3.out⟩
end Go.Proofs.YthggnkmlnjlggaaGreatDoor
