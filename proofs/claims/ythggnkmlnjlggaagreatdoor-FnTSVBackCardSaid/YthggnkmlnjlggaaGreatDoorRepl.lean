/-
  The escaper of the tab format: the walks of tsvEscaper and Replace.
  Conditions: none.
-/
import Derived.Test.YthggnkmlnjlggaaGreatDoorJson
import Derived.Test.YthggnkmlnjlggaaGreatDoorWords
import Derived.Test.YthggnkmlnjlggaaGreatDoorRefB
import Derived.Lib.BufferRead
namespace Go.Proofs.YthggnkmlnjlggaaGreatDoor
open Go.RowKit
attribute [local go_sem ↓] Go.wp_at_zero Go.wp_at_succ
/-- The table of the escaper. -/
def escCells : Array Value := #[.string ⟨#[9]⟩, .string ⟨#[92, 116]⟩, .string ⟨#[13]⟩, .string ⟨#[92, 114]⟩, .string ⟨#[10]⟩, .string ⟨#[92, 110]⟩, .string ⟨#[92]⟩, .string ⟨#[92, 92]⟩, .string ⟨#[0]⟩, .string ⟨#[92, 48]⟩]
def escKey (i : Nat) : UInt8 := [9, 13, 10, 92, 0].getD i 0
theorem esc_other {c : UInt8} (h : ∀ j, j < 5 → escKey j ≠ c) : esc c = [c] := by
  have h0 := h 0 (by decide)
  have h1 := h 1 (by decide)
  have h2 := h 2 (by decide)
  have h3 := h 3 (by decide)
  have h4 := h 4 (by decide)
  unfold esc
  rw [if_neg (fun e => h0 e.symm), if_neg (fun e => h1 e.symm), if_neg (fun e => h2 e.symm), if_neg (fun e => h3 e.symm), if_neg (fun e => h4 e.symm)]
theorem ne_byte {c k : UInt8} (hc : ¬ c = k) : ¬ ((k.toNat : Int) = (c.toNat : Int)) := fun h => hc (UInt8.toNat_inj.1 (by omega))
theorem ucells_two (l : List UInt8) (a b : UInt8) : ucells (l ++ [a, b]) = ucells l ++ [.int .u8 (a.toNat : Int), .int .u8 (b.toNat : Int)] := by
  simp only [ucells, List.map_append, List.map_cons, List.map_nil]
theorem conv_any {w : World} {base : Nat} {v : Value} {l : List UInt8} (h : w.ownsRow base 5 1 v l.length (ucells l)) : (convert 75 9 v).run Tryz.prog w = .ok (.string ⟨l.toArray⟩) w := by
  rcases h.2 with ⟨rfl, h0⟩ | ⟨g, cap, cur, rfl, _⟩
  · obtain rfl := List.eq_nil_of_length_eq_zero h0
    exact Lib.run_convert_nil_bytes w 75 9 5 0 Tryz.underlying75 Tryz.underlying5 Tryz.underlying9
  · exact conv_own h
theorem no_more {i : Nat} {c : UInt8} (h : ∀ j, j < i → escKey j ≠ c) (hc : escKey i ≠ c) : ∀ j, j < i + 1 → escKey j ≠ c := fun j hj => by
  rcases Nat.lt_succ_iff_lt_or_eq.1 hj with h1 | rfl
  · exact h j h1
  · exact hc
set_option maxRecDepth 100000 in
theorem escaper_any (w : World) : Calls Tryz.prog 49 #[] w fun e w' => e = .returned (.slice (some ⟨w.heap.size, 0, none⟩) 10 10) ∧ w' = w.alloc (.cells escCells 9) := by
  go_enter Tryz.func49, Tryz.ntmps49
  go_wp2
  go_ret
  exact ⟨rfl, rfl⟩
set_option maxHeartbeats 8000000 in
set_option maxRecDepth 100000 in
theorem repl_any (w : World) (g : Nat) (hb : Blk w g escCells 9) (s : ByteArray) (hs : s.size ≤ 1000000) :
    Calls Tryz.prog 50 #[.slice (some ⟨g, 0, none⟩) 10 10, .string s] w fun e w' => e = .returned (.string (escS s)) ∧ Old w w' := by
  obtain ⟨l, hl⟩ : ∃ l, l = s.data.toList := ⟨_, rfl⟩
  have hll : l.length = s.size := by rw [hl]; simp
  have HIX := Lib.hid (fun k hk W => index_at s k hk W)
  have HL := Lib.hid hl
  have HB := Lib.hid hb
  obtain ⟨iv, hi, hz0, hz1, hz2⟩ := info_parts Tryz.infoByte
  have HI := Lib.hid hi
  have HZ0 := Lib.hid hz0
  have HZ1 := Lib.hid hz1
  have HZ2 := Lib.hid hz2
  clear hi hz0 hz1 hz2 hl hb
  go_enter Tryz.func50, Tryz.ntmps50
  go_wp2
  go_loopg [5, 6] s.size (fun gk s5 s6 wr => ∃ k v, k + gk = s.size ∧ s5 = v ∧ s6 = .int .i64 (k : Nat) ∧ wr.ownsRow w.heap.size 5 1 v (escL (l.take k)).length (ucells (escL (l.take k))) ∧ Old w wr)
  case atStart => exact ⟨0, _, by omega, rfl, by go_num, World.ownsRow_nil _ _ _ _, Old.refl _⟩
  case round =>
    obtain ⟨k, v, hk, rfl, rfl, O, hold⟩ := hrel
    obtain ⟨A5, c5, rfl⟩ := own_len O
    have hlen : (escL (l.take k)).length ≤ 2000000 := by have := escL_len (l.take k); rw [List.length_take] at this; omega
    obtain ⟨X, hX⟩ : ∃ X, X = escL (l.take k) := ⟨_, rfl⟩
    rw [← hX] at O hlen ⊢
    have hbk := HB.out.old hold
    have OW := Lib.hid O
    have HO := Lib.hid hold
    by_cases hlt : k < s.size
    · have hix := HIX.out k hlt
      obtain ⟨c, hc⟩ : ∃ c, c = s.data.toList.getD k 0 := ⟨_, rfl⟩
      rw [← hc] at hix
      have HS := Lib.hid (show escL (l.take (k + 1)) = X ++ esc c by rw [escL_snoc l k (by omega), ← hX, hc, HL.out])
      have hkl : (k : Int) < (s.size : Nat) := by omega
      have s1 : IntKind.i64.wrap ((k : Int) + 1) = (k : Int) + 1 := IntWalk.i64_in _ (by omega)
      obtain ⟨r, hr⟩ : ∃ r, r = wr := ⟨_, rfl⟩
      have HBK := Lib.hid hbk
      clear O hold hX hc hbk HB HIX
      obtain ⟨gko, hgko⟩ : ∃ gko, gko = gk := ⟨_, rfl⟩
      subst hgko
      obtain rfl := hr
      go_wp2
      go_loopg [7] 5 (fun gk s7 wr => ∃ i : Nat, i + gk = 5 ∧ s7 = .int .i64 ((2 * i : Nat) : Int) ∧ (∀ j, j < i → escKey j ≠ c) ∧ Old r wr)
      case atStart => exact ⟨0, by omega, by go_num, fun j hj => absurd hj (by omega), Old.refl _⟩
      case round =>
        obtain ⟨i, hi, rfl, hno, hold⟩ := hrel
        have hbk := HBK.out.old hold
        have HOR := Lib.hid hold
        clear hold
        rcases (show i = 0 ∨ i = 1 ∨ i = 2 ∨ i = 3 ∨ i = 4 ∨ i = 5 by omega) with rfl | rfl | rfl | rfl | rfl | rfl
        · have k0 : ∀ W, (Instr.index 9 (.string ⟨#[9]⟩) (.int .i64 0)).run Tryz.prog W = .ok (.int .u8 9) W := fun W => index_at ⟨#[9]⟩ 0 (by decide) W
          have z0 : wr.cell? ⟨g, 0, none⟩ = some (.string ⟨#[9]⟩) := hbk.cell 0
          have hgl := hbk.lt
          clear hbk
          by_cases hc : c = 9
          · subst hc
            go_upto_region 6 with (fail)
            go_quiet (fail)
            have HOQ := Lib.hid (HOR.out.drewN nq)
            have hbq := HBK.out.old HOQ.out
            clear HOR
            generalize wr.drewN nq = wq at *
            have z1 : wq.cell? ⟨g, 1, none⟩ = some (.string ⟨#[92, 116]⟩) := hbq.cell 1
            have hgq := hbq.lt
            clear hbq z0
            go_wp2_with (at_builtin; go_must (refine Lib.wpList_append_own_string _ rfl _ _ 75 9 rfl w.heap.size 5 iv Tryz.underlying75 Tryz.underlying9 HI.out HZ0.out HZ1.out HZ2.out _ _ _ rfl (own_old OW.out HOQ.out) ⟨#[92, 116]⟩ rfl (by have : (ByteArray.mk #[92, 116]).size = 2 := rfl; unfold maxLen; omega) (by have : (ByteArray.mk #[92, 116]).size = 2 := rfl; omega) (by have h1 := Old.size HO.out; have h2 := Old.size HOQ.out; omega) ?_; intro v2 w4 hown hgrow _; have REL := Lib.hid (show w4.ownsRow w.heap.size 5 1 v2 (escL (l.take (k + 1))).length (ucells (escL (l.take (k + 1)))) ∧ Old w w4 from ⟨by rw [HS.out, show esc 9 = [92, 116] from rfl, List.length_append, ucells_two]; exact hown, (HO.out.trans HOQ.out).grown hgrow fun b hb => (own_lt OW.out hb).1⟩); clear hown hgrow))
            go_roundg (gko - 1)
            case measure => omega
            case rel =>
              exact ⟨k + 1, _, by omega, rfl, by go_num, REL.out.1, REL.out.2⟩
          · have hn : ¬ ((9 : Int) = (c.toNat : Int)) := ne_byte (k := 9) hc
            have hn2 : ((9 : Int) != (c.toNat : Int)) = true := by simpa using hn
            go_upto_region 6 with (fail)
            go_quiet (fail)
            go_wp2
            go_roundg (gk - 1)
            case measure => omega
            case rel => exact ⟨1, by omega, by go_num, no_more hno (fun h => hc h.symm), HOR.out.drewN nq⟩
        · have k0 : ∀ W, (Instr.index 9 (.string ⟨#[13]⟩) (.int .i64 0)).run Tryz.prog W = .ok (.int .u8 13) W := fun W => index_at ⟨#[13]⟩ 0 (by decide) W
          have z0 : wr.cell? ⟨g, 2, none⟩ = some (.string ⟨#[13]⟩) := hbk.cell 2
          have hgl := hbk.lt
          clear hbk
          by_cases hc : c = 13
          · subst hc
            go_upto_region 6 with (fail)
            go_quiet (fail)
            have HOQ := Lib.hid (HOR.out.drewN nq)
            have hbq := HBK.out.old HOQ.out
            clear HOR
            generalize wr.drewN nq = wq at *
            have z1 : wq.cell? ⟨g, 3, none⟩ = some (.string ⟨#[92, 114]⟩) := hbq.cell 3
            have hgq := hbq.lt
            clear hbq z0
            go_wp2_with (at_builtin; go_must (refine Lib.wpList_append_own_string _ rfl _ _ 75 9 rfl w.heap.size 5 iv Tryz.underlying75 Tryz.underlying9 HI.out HZ0.out HZ1.out HZ2.out _ _ _ rfl (own_old OW.out HOQ.out) ⟨#[92, 114]⟩ rfl (by have : (ByteArray.mk #[92, 114]).size = 2 := rfl; unfold maxLen; omega) (by have : (ByteArray.mk #[92, 114]).size = 2 := rfl; omega) (by have h1 := Old.size HO.out; have h2 := Old.size HOQ.out; omega) ?_; intro v2 w4 hown hgrow _; have REL := Lib.hid (show w4.ownsRow w.heap.size 5 1 v2 (escL (l.take (k + 1))).length (ucells (escL (l.take (k + 1)))) ∧ Old w w4 from ⟨by rw [HS.out, show esc 13 = [92, 114] from rfl, List.length_append, ucells_two]; exact hown, (HO.out.trans HOQ.out).grown hgrow fun b hb => (own_lt OW.out hb).1⟩); clear hown hgrow))
            go_roundg (gko - 1)
            case measure => omega
            case rel =>
              exact ⟨k + 1, _, by omega, rfl, by go_num, REL.out.1, REL.out.2⟩
          · have hn : ¬ ((13 : Int) = (c.toNat : Int)) := ne_byte (k := 13) hc
            have hn2 : ((13 : Int) != (c.toNat : Int)) = true := by simpa using hn
            go_upto_region 6 with (fail)
            go_quiet (fail)
            go_wp2
            go_roundg (gk - 1)
            case measure => omega
            case rel => exact ⟨2, by omega, by go_num, no_more hno (fun h => hc h.symm), HOR.out.drewN nq⟩
        · have k0 : ∀ W, (Instr.index 9 (.string ⟨#[10]⟩) (.int .i64 0)).run Tryz.prog W = .ok (.int .u8 10) W := fun W => index_at ⟨#[10]⟩ 0 (by decide) W
          have z0 : wr.cell? ⟨g, 4, none⟩ = some (.string ⟨#[10]⟩) := hbk.cell 4
          have hgl := hbk.lt
          clear hbk
          by_cases hc : c = 10
          · subst hc
            go_upto_region 6 with (fail)
            go_quiet (fail)
            have HOQ := Lib.hid (HOR.out.drewN nq)
            have hbq := HBK.out.old HOQ.out
            clear HOR
            generalize wr.drewN nq = wq at *
            have z1 : wq.cell? ⟨g, 5, none⟩ = some (.string ⟨#[92, 110]⟩) := hbq.cell 5
            have hgq := hbq.lt
            clear hbq z0
            go_wp2_with (at_builtin; go_must (refine Lib.wpList_append_own_string _ rfl _ _ 75 9 rfl w.heap.size 5 iv Tryz.underlying75 Tryz.underlying9 HI.out HZ0.out HZ1.out HZ2.out _ _ _ rfl (own_old OW.out HOQ.out) ⟨#[92, 110]⟩ rfl (by have : (ByteArray.mk #[92, 110]).size = 2 := rfl; unfold maxLen; omega) (by have : (ByteArray.mk #[92, 110]).size = 2 := rfl; omega) (by have h1 := Old.size HO.out; have h2 := Old.size HOQ.out; omega) ?_; intro v2 w4 hown hgrow _; have REL := Lib.hid (show w4.ownsRow w.heap.size 5 1 v2 (escL (l.take (k + 1))).length (ucells (escL (l.take (k + 1)))) ∧ Old w w4 from ⟨by rw [HS.out, show esc 10 = [92, 110] from rfl, List.length_append, ucells_two]; exact hown, (HO.out.trans HOQ.out).grown hgrow fun b hb => (own_lt OW.out hb).1⟩); clear hown hgrow))
            go_roundg (gko - 1)
            case measure => omega
            case rel =>
              exact ⟨k + 1, _, by omega, rfl, by go_num, REL.out.1, REL.out.2⟩
          · have hn : ¬ ((10 : Int) = (c.toNat : Int)) := ne_byte (k := 10) hc
            have hn2 : ((10 : Int) != (c.toNat : Int)) = true := by simpa using hn
            go_upto_region 6 with (fail)
            go_quiet (fail)
            go_wp2
            go_roundg (gk - 1)
            case measure => omega
            case rel => exact ⟨3, by omega, by go_num, no_more hno (fun h => hc h.symm), HOR.out.drewN nq⟩
        · have k0 : ∀ W, (Instr.index 9 (.string ⟨#[92]⟩) (.int .i64 0)).run Tryz.prog W = .ok (.int .u8 92) W := fun W => index_at ⟨#[92]⟩ 0 (by decide) W
          have z0 : wr.cell? ⟨g, 6, none⟩ = some (.string ⟨#[92]⟩) := hbk.cell 6
          have hgl := hbk.lt
          clear hbk
          by_cases hc : c = 92
          · subst hc
            go_upto_region 6 with (fail)
            go_quiet (fail)
            have HOQ := Lib.hid (HOR.out.drewN nq)
            have hbq := HBK.out.old HOQ.out
            clear HOR
            generalize wr.drewN nq = wq at *
            have z1 : wq.cell? ⟨g, 7, none⟩ = some (.string ⟨#[92, 92]⟩) := hbq.cell 7
            have hgq := hbq.lt
            clear hbq z0
            go_wp2_with (at_builtin; go_must (refine Lib.wpList_append_own_string _ rfl _ _ 75 9 rfl w.heap.size 5 iv Tryz.underlying75 Tryz.underlying9 HI.out HZ0.out HZ1.out HZ2.out _ _ _ rfl (own_old OW.out HOQ.out) ⟨#[92, 92]⟩ rfl (by have : (ByteArray.mk #[92, 92]).size = 2 := rfl; unfold maxLen; omega) (by have : (ByteArray.mk #[92, 92]).size = 2 := rfl; omega) (by have h1 := Old.size HO.out; have h2 := Old.size HOQ.out; omega) ?_; intro v2 w4 hown hgrow _; have REL := Lib.hid (show w4.ownsRow w.heap.size 5 1 v2 (escL (l.take (k + 1))).length (ucells (escL (l.take (k + 1)))) ∧ Old w w4 from ⟨by rw [HS.out, show esc 92 = [92, 92] from rfl, List.length_append, ucells_two]; exact hown, (HO.out.trans HOQ.out).grown hgrow fun b hb => (own_lt OW.out hb).1⟩); clear hown hgrow))
            go_roundg (gko - 1)
            case measure => omega
            case rel =>
              exact ⟨k + 1, _, by omega, rfl, by go_num, REL.out.1, REL.out.2⟩
          · have hn : ¬ ((92 : Int) = (c.toNat : Int)) := ne_byte (k := 92) hc
            have hn2 : ((92 : Int) != (c.toNat : Int)) = true := by simpa using hn
            go_upto_region 6 with (fail)
            go_quiet (fail)
            go_wp2
            go_roundg (gk - 1)
            case measure => omega
            case rel => exact ⟨4, by omega, by go_num, no_more hno (fun h => hc h.symm), HOR.out.drewN nq⟩
        · have k0 : ∀ W, (Instr.index 9 (.string ⟨#[0]⟩) (.int .i64 0)).run Tryz.prog W = .ok (.int .u8 0) W := fun W => index_at ⟨#[0]⟩ 0 (by decide) W
          have z0 : wr.cell? ⟨g, 8, none⟩ = some (.string ⟨#[0]⟩) := hbk.cell 8
          have hgl := hbk.lt
          clear hbk
          by_cases hc : c = 0
          · subst hc
            go_upto_region 6 with (fail)
            go_quiet (fail)
            have HOQ := Lib.hid (HOR.out.drewN nq)
            have hbq := HBK.out.old HOQ.out
            clear HOR
            generalize wr.drewN nq = wq at *
            have z1 : wq.cell? ⟨g, 9, none⟩ = some (.string ⟨#[92, 48]⟩) := hbq.cell 9
            have hgq := hbq.lt
            clear hbq z0
            go_wp2_with (at_builtin; go_must (refine Lib.wpList_append_own_string _ rfl _ _ 75 9 rfl w.heap.size 5 iv Tryz.underlying75 Tryz.underlying9 HI.out HZ0.out HZ1.out HZ2.out _ _ _ rfl (own_old OW.out HOQ.out) ⟨#[92, 48]⟩ rfl (by have : (ByteArray.mk #[92, 48]).size = 2 := rfl; unfold maxLen; omega) (by have : (ByteArray.mk #[92, 48]).size = 2 := rfl; omega) (by have h1 := Old.size HO.out; have h2 := Old.size HOQ.out; omega) ?_; intro v2 w4 hown hgrow _; have REL := Lib.hid (show w4.ownsRow w.heap.size 5 1 v2 (escL (l.take (k + 1))).length (ucells (escL (l.take (k + 1)))) ∧ Old w w4 from ⟨by rw [HS.out, show esc 0 = [92, 48] from rfl, List.length_append, ucells_two]; exact hown, (HO.out.trans HOQ.out).grown hgrow fun b hb => (own_lt OW.out hb).1⟩); clear hown hgrow))
            go_roundg (gko - 1)
            case measure => omega
            case rel =>
              exact ⟨k + 1, _, by omega, rfl, by go_num, REL.out.1, REL.out.2⟩
          · have hn : ¬ ((0 : Int) = (c.toNat : Int)) := ne_byte (k := 0) hc
            have hn2 : ((0 : Int) != (c.toNat : Int)) = true := by simpa using hn
            go_upto_region 6 with (fail)
            go_quiet (fail)
            go_wp2
            go_roundg (gk - 1)
            case measure => omega
            case rel => exact ⟨5, by omega, by go_num, no_more hno (fun h => hc h.symm), HOR.out.drewN nq⟩
        · have HNO := Lib.hid hno
          clear hno hbk
          go_upto_region 6 with (fail)
          go_quiet (fail)
          have HOQ := Lib.hid (HOR.out.drewN nq)
          have hbq := HBK.out.old HOQ.out
          clear HOR
          generalize wr.drewN nq = wq at *
          clear hbq
          go_wp2_with (at_builtin; go_must (refine wpList_append_lies _ rfl _ _ _ rfl w.heap.size 5 iv _ 1 1 Tryz.underlying75 HI.out HZ0.out HZ1.out HZ2.out rfl (by decide) (.slice A5 X.length c5) X.length (ucells X) rfl (own_old (own_old OW.out HOQ.out) ((Old.refl _).alloc _)) ⟨wq.heap.size, 0, none⟩ 1 1 [.int .u8 (c.toNat : Int)] rfl rfl (news_blk (cs := #[.int .u8 (c.toNat : Int)]) (Blk.new wq _ _)) (one_one rfl) (by decide) (by unfold maxLen; omega) (by omega) (by have h1 := Old.size HO.out; have h2 := Old.size HOQ.out; simp; omega) (wq.heap.size + 1) (by simp) ?_; intro gn cap w4 hown hgrow _ _; have REL := Lib.hid (show w4.ownsRow w.heap.size 5 1 (.slice (some ⟨gn, 0, none⟩) (X.length + 1) cap) (escL (l.take (k + 1))).length (ucells (escL (l.take (k + 1)))) ∧ Old w w4 from ⟨by rw [HS.out, esc_other HNO.out, List.length_append, ← ucells_byte]; exact hown, ((HO.out.trans HOQ.out).alloc _).grown hgrow fun b hb => (own_lt OW.out hb).1⟩); clear hown hgrow))
          go_roundg (gko - 1)
          case measure => omega
          case rel =>
            exact ⟨k + 1, _, by omega, rfl, by go_num, REL.out.1, REL.out.2⟩
    · obtain rfl : k = s.size := by omega
      have hst : escS s = ⟨X.toArray⟩ := by
        rw [hX, List.take_of_length_le (by omega), HL.out]
        rfl
      have HST := Lib.hid hst
      clear hbk O hst hX hlen
      have hcv := conv_any OW.out
      go_wp2
      go_ret
      exact ⟨by rw [HST.out]; rfl, HO.out⟩
end Go.Proofs.YthggnkmlnjlggaaGreatDoor
