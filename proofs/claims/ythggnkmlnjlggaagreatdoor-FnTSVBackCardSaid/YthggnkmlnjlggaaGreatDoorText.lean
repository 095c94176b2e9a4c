/-
  Half of an odd number as text: the walk of text.
  Conditions: none.
-/
import Derived.Test.YthggnkmlnjlggaaGreatDoorShort
import Derived.Laws.IdiomStrings
namespace Go.Proofs.YthggnkmlnjlggaaGreatDoor
open Go.RowKit
attribute [local go_sem ↓] Go.wp_at_zero Go.wp_at_succ

/-- Bytes as cells. -/
def ucells (l : List UInt8) : List Value := l.map fun b => Value.int .u8 (b.toNat : Int)
theorem ucells_digit {l : List UInt8} {d : Nat} (h : d < 10) : ucells l ++ [.int .u8 (48 + (d : Int))] = ucells (l ++ [dsign d]) := by
  simp only [ucells, List.map_append, List.map_cons, List.map_nil, dsign_toNat h]
  rfl
theorem ucells_byte (l : List UInt8) (b : UInt8) : ucells l ++ [.int .u8 (b.toNat : Int)] = ucells (l ++ [b]) := by
  simp only [ucells, List.map_append, List.map_cons, List.map_nil]
theorem conv_own {w : World} {base g n cap : Nat} {l : List UInt8} (h : w.ownsRow base 5 1 (.slice (some ⟨g, 0, none⟩) n cap) n (ucells l)) : (convert 75 9 (.slice (some ⟨g, 0, none⟩) n cap)).run Tryz.prog w = .ok (.string ⟨l.toArray⟩) w := by
  have hn : n = l.length := by have := h.1; simp [ucells] at this; omega
  subst hn
  refine run_convert_bytes_back (P := Tryz.prog) w 75 9 5 ⟨g, 0, none⟩ cap l Tryz.underlying75 Tryz.underlying5 Tryz.underlying9 fun j hj => ?_
  have := (own_at h (i := j) (u := .int .u8 (l[j].toNat : Int)) (by simp [ucells, List.getElem?_eq_getElem hj])).1
  have hadd : (⟨g, 0, none⟩ : Addr).add j = ⟨g, j, none⟩ := by unfold Addr.add; split <;> simp_all
  rw [hadd]
  exact this
/-- Half of an odd number. -/
def hstr (h : Nat) : ByteArray := ⟨((digs (h / 2)).map dsign ++ [46, 53]).toArray⟩
theorem half_digits {h : Nat} (ho : h % 2 = 1) : (h = 1 ∧ digs (5 * h) = [5]) ∨ (1 < h ∧ digs (5 * h) = digs (h / 2) ++ [5]) := by
  by_cases h1 : h = 1
  · subst h1
    exact .inl ⟨rfl, digs_small (by decide)⟩
  · right
    refine ⟨by omega, ?_⟩
    rw [digs_big (by omega), show 5 * h / 10 = h / 2 by omega, show 5 * h % 10 = 5 by omega]
set_option maxHeartbeats 8000000 in
set_option maxRecDepth 100000 in
theorem text_any (w : World) (g : Nat) (v : Value) (h : Nat) (ho : h % 2 = 1) (D : List Nat) (hD : D = digs (5 * h)) (hl : D.length ≤ 100) (q : Nat) (hq : D.length = q + 1) (hd : DecAt w g v D ((q : Nat) : Int)) :
    Calls Tryz.prog 131 #[.pointer (some ⟨g, 0, none⟩), .int .i64 1] w fun e w' => e = .returned (.string (hstr h)) ∧ Old w w' := by
  obtain ⟨A, c, rfl, hcap⟩ := hd.row.len
  have hlt : ∀ d ∈ D, d < 10 := hD ▸ digs_lt _
  have HLT := Lib.hid hlt
  have HDD := Lib.hid hD
  have H := Lib.hid hd
  have hd5 : D.getD q 0 = 5 := by
    rcases half_digits ho with ⟨_, h2⟩ | ⟨_, h2⟩
    · rw [← hD] at h2
      subst h2
      simp at hq
      subst hq
      rfl
    · rw [← hD] at h2
      subst h2
      simp at hq
      simp [List.getD_eq_getElem?_getD, ← hq]
  have HD5 := Lib.hid hd5
  obtain ⟨iv, hi, hz0, hz1, hz2⟩ := info_parts Tryz.infoByte
  have HI := Lib.hid hi
  have HZ0 := Lib.hid hz0
  have HZ1 := Lib.hid hz1
  have HZ2 := Lib.hid hz2
  clear hi hz0 hz1 hz2 hlt hd5 hd hD
  go_enter Tryz.func131, Tryz.ntmps131
  go_wp2
  go_loopg [5, 6] q (fun gk s5 s6 wr => ∃ k v, k + gk = q ∧ s5 = v ∧ s6 = .int .i64 (k : Nat) ∧ wr.ownsRow w.heap.size 5 1 v k (ucells ((D.take k).map dsign)) ∧ Old w wr)
  case atStart => exact ⟨0, _, by simp, rfl, by go_num, World.ownsRow_nil _ _ _ _, Old.refl _⟩
  case round =>
    obtain ⟨k, v, hk, rfl, rfl, O, hold⟩ := hrel
    obtain ⟨A5, c5, rfl⟩ := own_len O
    have x1 : wr.cell? ⟨g, 1, none⟩ = some (.int .i64 (q : Nat)) := (H.out.old hold).blk.cell 1
    have OW := Lib.hid O
    have HO := Lib.hid hold
    clear O hold
    by_cases hlt : k < q
    · have hd10 : D.getD k 0 < 10 := pre_digit HLT.out k
      have hsn : (D.take k).map dsign ++ [dsign (D.getD k 0)] = (D.take (k + 1)).map dsign := by
        have e : D.take (k + 1) = D.take k ++ [D.getD k 0] := by
          rw [List.take_succ_eq_append_getElem (by omega)]
          simp [List.getD_eq_getElem?_getD, List.getElem?_eq_getElem (by omega : k < D.length)]
        rw [e, List.map_append]
        rfl
      have hdg := digit_any wr g _ D ((q : Nat) : Int) (H.out.old HO.out) k
      obtain ⟨d, hd⟩ : ∃ d, d = D.getD k 0 := ⟨_, rfl⟩
      rw [← hd] at hd10 hsn hdg
      have HSN := Lib.hid hsn
      have HDG := Lib.hid hdg
      have s1 : IntKind.u8.wrap (48 + (d : Int)) = 48 + (d : Int) := IntWalk.u8_in _ (by omega)
      have s2 : IntKind.i64.wrap ((k : Int) + 1) = (k : Int) + 1 := IntWalk.i64_in _ (by omega)
      clear hd hsn hdg
      go_wp2_with (first | (go_at_call 157; go_must (refine HDG.out.mono ?_; rintro e w5 ⟨rfl, rfl⟩)) | (at_builtin; have hsz := Old.size HO.out; go_must (refine wpList_append_lies _ rfl _ _ _ rfl w.heap.size 5 iv _ 1 1 Tryz.underlying75 HI.out HZ0.out HZ1.out HZ2.out rfl (by decide) (.slice A5 k c5) (k) (ucells ((D.take k).map dsign)) rfl (own_old OW.out ((Old.refl _).alloc _)) ⟨w5.heap.size, 0, none⟩ 1 1 [.int .u8 (48 + (d : Int))] rfl rfl (news_blk (cs := #[.int .u8 (48 + (d : Int))]) (Blk.new w5 _ _)) (one_one rfl) (by decide) (by unfold maxLen; omega) (by omega) (by simp; omega) (w5.heap.size + 1) (by simp) ?_; intro gn4 cap4 w4 hown hgrow hat hlt4; rw [ucells_digit hd10, HSN.out] at hown; have OW4 := Lib.hid hown; have HO4 := Lib.hid (show Old w w4 from (HO.out.alloc _).grown hgrow fun b hb => (own_lt OW.out hb).1); clear hown hgrow hat hlt4 hsz)))
      go_roundg (gk - 1)
      case measure => omega
      case rel => exact ⟨k + 1, _, by omega, rfl, by go_num, OW4.out, HO4.out⟩
    · obtain rfl : k = q := by omega
      have hstr0 : (k = 0 ∧ hstr h = ⟨([48] ++ [46] ++ [53] : List UInt8).toArray⟩) ∨ (0 < k ∧ hstr h = ⟨((D.take k).map dsign ++ [46] ++ [53]).toArray⟩) := by
        rcases half_digits ho with ⟨h1, h2⟩ | ⟨h1, h2⟩
        · left
          rw [← HDD.out] at h2
          rw [h2] at hq
          simp at hq
          subst h1
          refine ⟨by omega, ?_⟩
          unfold hstr
          rw [show 1 / 2 = 0 by rfl, digs_small (by decide)]
          rfl
        · right
          rw [← HDD.out] at h2
          rw [h2] at hq
          simp at hq
          have := List.length_pos_iff.2 (digs_ne (h / 2))
          refine ⟨by omega, ?_⟩
          rw [h2, ← hq, List.take_left' rfl]
          unfold hstr
          simp
      rcases Nat.eq_zero_or_pos k with hk0 | hk0
      · have hst : hstr h = ⟨([48] ++ [46] ++ [53] : List UInt8).toArray⟩ := by
          rcases hstr0 with h | h
          · exact h.2
          · omega
        have HSTR := Lib.hid (show Ending.returned (.string ⟨([48] ++ [46] ++ [53] : List UInt8).toArray⟩) = Ending.returned (.string (hstr h)) by rw [hst])
        clear hstr0 hst
        subst hk0
        have OW0 := Lib.hid (show wr.ownsRow w.heap.size 5 1 (.slice A5 0 c5) 0 (ucells []) from OW.out)
        clear OW
        go_upto_region 8 with (at_builtin; have hsz := Old.size HO.out; go_must (refine wpList_append_lies _ rfl _ _ _ rfl w.heap.size 5 iv _ 1 1 Tryz.underlying75 HI.out HZ0.out HZ1.out HZ2.out rfl (by decide) (.slice A5 0 c5) (0) (ucells []) rfl (own_old OW0.out ((Old.refl _).alloc _)) ⟨wr.heap.size, 0, none⟩ 1 1 [.int .u8 48] rfl rfl (news_blk (cs := #[.int .u8 48]) (Blk.new wr _ _)) (one_one rfl) (by decide) (by unfold maxLen; omega) (by omega) (by simp; omega) (wr.heap.size + 1) (by simp) ?_; intro gn4 cap4 w4 hown hgrow hat hlt4; rw [show ucells [] ++ [.int .u8 48] = ucells [48] from rfl] at hown; have OW4 := Lib.hid hown; have HO4 := Lib.hid (show Old w w4 from (HO.out.alloc _).grown hgrow fun b hb => (own_lt OW0.out hb).1); clear hown hgrow hat hlt4 hsz))
        go_upto_region 10 with (at_builtin; have hsz := Old.size HO4.out; go_must (refine wpList_append_lies _ rfl _ _ _ rfl w.heap.size 5 iv _ 1 1 Tryz.underlying75 HI.out HZ0.out HZ1.out HZ2.out rfl (by decide) (.slice (some ⟨gn4, 0, none⟩) 1 cap4) (1) (ucells ([48])) rfl (own_old OW4.out ((Old.refl _).alloc _)) ⟨w4.heap.size, 0, none⟩ 1 1 [.int .u8 46] rfl rfl (news_blk (cs := #[.int .u8 46]) (Blk.new w4 _ _)) (one_one rfl) (by decide) (by unfold maxLen; omega) (by omega) (by simp; omega) (w4.heap.size + 1) (by simp) ?_; intro gn6 cap6 w6 hown hgrow hat hlt4; rw [show ucells ([48]) ++ [.int .u8 46] = ucells ([48] ++ [46]) from ucells_byte _ 46] at hown; have OW6 := Lib.hid hown; have HO6 := Lib.hid (show Old w w6 from (HO4.out.alloc _).grown hgrow fun b hb => (own_lt OW4.out hb).1); clear hown hgrow hat hlt4 hsz))
        have hdg := fun wq (hq : Old w wq) => digit_any wq g _ D ((0 : Nat) : Int) (H.out.old hq) 0
        rw [HD5.out] at hdg
        have HDG := Lib.hid hdg
        clear hdg
        have t1 : IntKind.i64.wrap ((0 : Nat) : Int) = (0 : Nat) := IntWalk.i64_in _ (by omega)
        go_wp2
        go_loopg [5, 7] 1 (fun gk s5 s7 wr => (gk = 1 ∧ s5 = .slice (some ⟨gn6, 0, none⟩) (1 + 1) cap6 ∧ s7 = .int .i64 0 ∧ w6 = wr) ∨ (gk = 0 ∧ s7 = .int .i64 1 ∧ ∃ gb cb, s5 = .slice (some ⟨gb, 0, none⟩) (1 + 1 + 1) cb ∧ wr.ownsRow w.heap.size 5 1 (.slice (some ⟨gb, 0, none⟩) (1 + 1 + 1) cb) (1 + 1 + 1) (ucells ([48] ++ [46] ++ [53])) ∧ Old w wr))
        case atStart => exact .inl ⟨rfl, rfl, rfl, rfl⟩
        case round =>
          rcases hrel with ⟨rfl, rfl, rfl, rfl⟩ | ⟨rfl, rfl, gb, cb, rfl, hown, hold⟩
          · have x1 : w6.cell? ⟨g, 1, none⟩ = some (.int .i64 (0 : Nat)) := (H.out.old HO6.out).blk.cell 1
            go_wp2_with (first | (go_at_call 157; go_must (refine (HDG.out w6 HO6.out).mono ?_; rintro e w5 ⟨rfl, rfl⟩)) | (at_builtin; have hsz := Old.size HO6.out; go_must (refine wpList_append_lies _ rfl _ _ _ rfl w.heap.size 5 iv _ 1 1 Tryz.underlying75 HI.out HZ0.out HZ1.out HZ2.out rfl (by decide) (.slice (some ⟨gn6, 0, none⟩) (1 + 1) cap6) (1 + 1) (ucells ([48] ++ [46])) rfl (own_old OW6.out ((Old.refl _).alloc _)) ⟨w5.heap.size, 0, none⟩ 1 1 [.int .u8 53] rfl rfl (news_blk (cs := #[.int .u8 53]) (Blk.new w5 _ _)) (one_one rfl) (by decide) (by unfold maxLen; omega) (by omega) (by simp; omega) (w5.heap.size + 1) (by simp) ?_; intro gn7 cap7 w7 hown hgrow hat hlt4; rw [show ucells ([48] ++ [46]) ++ [.int .u8 53] = ucells ([48] ++ [46] ++ [53]) from ucells_byte _ 53] at hown; have OW7 := Lib.hid hown; have HO7 := Lib.hid (show Old w w7 from (HO6.out.alloc _).grown hgrow fun b hb => (own_lt OW6.out hb).1); clear hown hgrow hat hlt4 hsz)))
            go_roundg 0
            case measure => omega
            case rel => exact .inr ⟨rfl, by go_num, _, _, rfl, OW7.out, HO7.out⟩
          · have hcv := conv_own hown
            have HOL := Lib.hid hold
            clear hown hold
            go_wp2
            go_ret
            refine ⟨?_, HOL.out⟩
            first
              | exact HSTR.out
              | (refine Eq.trans (b := Ending.returned (.string ⟨(List.take k (List.map dsign D) ++ [46, 53]).toArray⟩)) rfl (Eq.trans ?_ HSTR.out); simp)
      · have hst : hstr h = ⟨((D.take k).map dsign ++ [46] ++ [53]).toArray⟩ := by
          rcases hstr0 with h | h
          · omega
          · exact h.2
        have HSTR := Lib.hid (show Ending.returned (.string ⟨((D.take k).map dsign ++ [46] ++ [53]).toArray⟩) = Ending.returned (.string (hstr h)) by rw [hst])
        clear hstr0 hst
        have hk0b : (((k : Nat) : Int) == 0) = false := by simp; omega
        have hk0c : k ≠ 0 := by omega
        go_upto_region 8 with (fail)
        go_upto_region 10 with (at_builtin; have hsz := Old.size HO.out; go_must (refine wpList_append_lies _ rfl _ _ _ rfl w.heap.size 5 iv _ 1 1 Tryz.underlying75 HI.out HZ0.out HZ1.out HZ2.out rfl (by decide) (.slice A5 k c5) (k) (ucells ((D.take k).map dsign)) rfl (own_old OW.out ((Old.refl _).alloc _)) ⟨wr.heap.size, 0, none⟩ 1 1 [.int .u8 46] rfl rfl (news_blk (cs := #[.int .u8 46]) (Blk.new wr _ _)) (one_one rfl) (by decide) (by unfold maxLen; omega) (by omega) (by simp; omega) (wr.heap.size + 1) (by simp) ?_; intro gn6 cap6 w6 hown hgrow hat hlt4; rw [show ucells ((D.take k).map dsign) ++ [.int .u8 46] = ucells ((D.take k).map dsign ++ [46]) from ucells_byte _ 46] at hown; have OW6 := Lib.hid hown; have HO6 := Lib.hid (show Old w w6 from (HO.out.alloc _).grown hgrow fun b hb => (own_lt OW.out hb).1); clear hown hgrow hat hlt4 hsz))
        have hdg := fun wq (hq : Old w wq) => digit_any wq g _ D ((k : Nat) : Int) (H.out.old hq) k
        rw [HD5.out] at hdg
        have HDG := Lib.hid hdg
        clear hdg
        have t1 : IntKind.i64.wrap ((k : Nat) : Int) = (k : Nat) := IntWalk.i64_in _ (by omega)
        go_wp2
        go_loopg [5, 7] 1 (fun gk s5 s7 wr => (gk = 1 ∧ s5 = .slice (some ⟨gn6, 0, none⟩) (k + 1) cap6 ∧ s7 = .int .i64 0 ∧ w6 = wr) ∨ (gk = 0 ∧ s7 = .int .i64 1 ∧ ∃ gb cb, s5 = .slice (some ⟨gb, 0, none⟩) (k + 1 + 1) cb ∧ wr.ownsRow w.heap.size 5 1 (.slice (some ⟨gb, 0, none⟩) (k + 1 + 1) cb) (k + 1 + 1) (ucells ((D.take k).map dsign ++ [46] ++ [53])) ∧ Old w wr))
        case atStart => exact .inl ⟨rfl, rfl, rfl, rfl⟩
        case round =>
          rcases hrel with ⟨rfl, rfl, rfl, rfl⟩ | ⟨rfl, rfl, gb, cb, rfl, hown, hold⟩
          · have x1 : w6.cell? ⟨g, 1, none⟩ = some (.int .i64 (k : Nat)) := (H.out.old HO6.out).blk.cell 1
            go_wp2_with (first | (go_at_call 157; go_must (refine (HDG.out w6 HO6.out).mono ?_; rintro e w5 ⟨rfl, rfl⟩)) | (at_builtin; have hsz := Old.size HO6.out; go_must (refine wpList_append_lies _ rfl _ _ _ rfl w.heap.size 5 iv _ 1 1 Tryz.underlying75 HI.out HZ0.out HZ1.out HZ2.out rfl (by decide) (.slice (some ⟨gn6, 0, none⟩) (k + 1) cap6) (k + 1) (ucells ((D.take k).map dsign ++ [46])) rfl (own_old OW6.out ((Old.refl _).alloc _)) ⟨w5.heap.size, 0, none⟩ 1 1 [.int .u8 53] rfl rfl (news_blk (cs := #[.int .u8 53]) (Blk.new w5 _ _)) (one_one rfl) (by decide) (by unfold maxLen; omega) (by omega) (by simp; omega) (w5.heap.size + 1) (by simp) ?_; intro gn7 cap7 w7 hown hgrow hat hlt4; rw [show ucells ((D.take k).map dsign ++ [46]) ++ [.int .u8 53] = ucells ((D.take k).map dsign ++ [46] ++ [53]) from ucells_byte _ 53] at hown; have OW7 := Lib.hid hown; have HO7 := Lib.hid (show Old w w7 from (HO6.out.alloc _).grown hgrow fun b hb => (own_lt OW6.out hb).1); clear hown hgrow hat hlt4 hsz)))
            go_roundg 0
            case measure => omega
            case rel => exact .inr ⟨rfl, by go_num, _, _, rfl, OW7.out, HO7.out⟩
          · have hcv := conv_own hown
            have HOL := Lib.hid hold
            clear hown hold
            go_wp2
            go_ret
            refine ⟨?_, HOL.out⟩
            first
              | exact HSTR.out
              | (refine Eq.trans (b := Ending.returned (.string ⟨(List.take k (List.map dsign D) ++ [46, 53]).toArray⟩)) rfl (Eq.trans ?_ HSTR.out); simp)
end Go.Proofs.YthggnkmlnjlggaaGreatDoor
