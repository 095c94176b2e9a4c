/-
  The walk of the statement on stacks.
  Conditions: none.
-/
import Derived.Test.YtaehbephmjolcaaStkLaw
import Derived.Test.YtaehbephmjolcaaStkWalk
namespace Go.Proofs.Ytaehbephmjolcaa
open Go.RowKit

theorem Try.info27 : (Try.prog.info? 27).map (fun i => (i.zero, i.size, i.bytes)) = some (some (.slice none 0 0), 1, 24) := by kernel_rfl
theorem Try.info3 : (Try.prog.info? 3).map (fun i => (i.zero, i.size, i.bytes)) = some (some (.int .i64 0), 1, 8) := by kernel_rfl

theorem olds_of {W : World} {base n c : Nat} {A : Option Addr} {xs : List Int} (h : RdI W base (.slice A n c) xs) : ∀ b, A = some b → ∀ j u, (xs.map (Value.int .i64))[j]? = some u → W.cell? (b.add j) = some u := by
  intro b hb j u hu
  obtain ⟨A', c', he, _, _, h⟩ := h
  cases he
  have hj : j < xs.length := by
    have := (List.getElem?_eq_some_iff.1 hu).1
    simpa using this
  obtain ⟨g, arr, hA, _, hk, hr⟩ := h (by rintro rfl; simp at hj)
  rw [hA] at hb
  cases hb
  have hadd : (⟨g, 0, none⟩ : Addr).add j = ⟨g, j, none⟩ := by unfold Addr.add; split <;> simp_all
  rw [hadd, hk.cell, hr j hj]
  simp only [List.getElem?_map, List.getElem?_eq_getElem hj, Option.map_some, Option.some.injEq] at hu
  rw [← hu, List.getD_eq_getElem?_getD, List.getElem?_eq_getElem hj]
  rfl
theorem one_one {a : Value} (ha : a.oneCell' = true) : ∀ u ∈ [a], u.oneCell' = true := by
  intro u hu
  rw [List.mem_singleton] at hu
  rw [hu]
  exact ha
theorem news_one {W : World} {B : Nat} (hB : W.heap.size = B) (a : Value) (t : TypeId) (k : Nat) : ∀ j u, [a][j]? = some u → ((W.alloc (.cells #[a] t)).drewN k).cell? ((⟨B, 0, none⟩ : Addr).add j) = some u := by
  subst hB
  intro j u hj
  match j, hj with
  | 0, hj => simp at hj; subst hj; simp [Addr.add]
  | j + 1, hj => simp at hj
theorem own_lower {w : World} {base base' : Nat} {e : TypeId} {size n : Nat} {v : Value} {xs : List Value} (h : w.ownsRow base e size v n xs) (hb : base' ≤ base) : w.ownsRow base' e size v n xs := by
  obtain ⟨h1, h2⟩ := h
  refine ⟨h1, ?_⟩
  rcases h2 with h2 | ⟨g, cap, cur, hv, hg, r⟩
  · exact .inl h2
  · exact .inr ⟨g, cap, cur, hv, by omega, r⟩

def Yes (w : World) (e : Ending) (w' : World) : Prop := e = .returned (.bool true) ∧ Below w.heap.size w w'
def Rnd (w wr : World) (O : Nat) (ops : List (Int × Int)) (k : Nat) (s4 s5 : Value) : Prop := Law w wr O ops (refTo ops k) s4 s5
theorem toRef {ops : List (Int × Int)} {k : Nat} {r : Ref} {d x : Int} (hm : refTo ops k = r) (hd : ops.getD k (0, 0) = (d, x)) : refTo ops (k + 1) = (refStep r d x).1 ∧ saidAt ops k = (refStep r d x).2 := by
  rw [said_same]
  unfold refSaid
  rw [refTo, hm, hd]
  exact ⟨rfl, rfl⟩

set_option maxHeartbeats 4000000 in
set_option maxRecDepth 100000 in
theorem law_any (w : World) (A : Option Addr) (c : Nat) (ops : List (Int × Int)) (hn : ops.length ≤ 1000) (hr : Calls_ w A ops) :
    Calls Try.prog 4 #[.slice A ops.length c] w (Yes w) := by
  obtain ⟨i0, hi, hz0, hz1, hz2⟩ := info_parts Try.info27
  obtain ⟨j0, gi, gz0, gz1, gz2⟩ := info_parts Try.info3
  have HR := Lib.hid hr
  clear hr
  have hl1 : ((ops.length : Int) != (ops.length : Int)) = false := by simp
  go_enter Try.func4, Try.ntmps4
  go_wp2_with (go_at_call 6; refine (stack_any _ _ _ _ hn HR.out).mono ?_; rintro e w1 ⟨O, rfl, hO, hb, hc⟩)
  go_loopg [4, 5, 6] ops.length (fun gk s4 s5 s6 wr => ∃ k, k + gk = ops.length ∧ s6 = .int .i64 k ∧ Rnd w wr O ops k s4 s5)
  case atStart =>
    exact ⟨0, by simp, rfl, ⟨RdI.nil _ _, ⟨[], World.ownsRow_nil _ _ _ _, fun j hj => by simp [refTo, ref0] at hj⟩, hb, hc⟩⟩
  case round =>
    obtain ⟨k, hk, rfl, R⟩ := hrel
    have HK := Lib.hid hk
    clear hb hc
    by_cases hlt : k < ops.length
    · have few := Lib.hid (refTo_few ops k)
      obtain ⟨d, x, hd⟩ : ∃ d x, ops.getD k (0, 0) = (d, x) := ⟨_, _, rfl⟩
      obtain ⟨now, kept, hm⟩ : ∃ now kept, refTo ops k = ⟨now, kept⟩ := ⟨_, _, rfl⟩
      have hts := Lib.hid (toRef hm hd)
      obtain ⟨b, o, rfl, hc0, hc1⟩ : ∃ b o, A = some ⟨b, o, none⟩ ∧ wr.cell? ⟨b, o + k * 2, none⟩ = some (.int .i64 d) ∧ wr.cell? ⟨b, o + k * 2 + 1, none⟩ = some (.int .i64 x) := by
        obtain ⟨b, o, hA, h0, h1⟩ := HR.out k hlt
        rw [hd] at h0 h1
        have hlb := World.block_lt_of_cell? w _ h0
        have hbk := R.old.block b hlb hlb
        exact ⟨b, o, hA, (World.cell?_of_block (w := w) hbk).trans h0, (World.cell?_of_block (w := w) hbk).trans h1⟩
      unfold Rnd at R
      rw [hm] at R few
      clear hd hm HR
      have hblt : b < wr.heap.size := World.block_lt_of_cell? wr _ hc0
      have hOlt : O < wr.heap.size := R.out.lt
      obtain ⟨An, cn, rfl, hcn, hnn, hrd⟩ := R.now
      have R0 := Lib.hid R
      have HN := Lib.hid hrd
      clear R hrd
      by_cases h1 : d = 1
      · subst h1
        have hs : refStep ⟨now, kept⟩ 1 x = (⟨now ++ [x], kept⟩, (false, 0)) := by simp [refStep]
        obtain ⟨o0, o1⟩ := R0.out.said hlt (b := false) (y := 0) (by rw [hts.out.2, hs])
        clear hs
        have hW : Chg (fun _ => True) wr ((wr.alloc (.cells #[.bool false, .int .i64 0] 30)).alloc (.cells #[.int .i64 x] 3)).drew := (((Chg.refl _ wr).alloc _).alloc _).drew
        have R1 := Lib.hid (R0.out.chg hW)
        have hsz := R0.out.old.size
        have kb := Lib.hid ((((Blk.new wr #[.bool false, .int .i64 0] 30).alloc (.cells #[.int .i64 x] 3)).drew))
        clear hW
        go_wp2
        go_region_law (refine step_append_grows rfl (.tmp 41) (.tmp 47) 27 rfl 3 j0 _ 1 8 Try.underlying27 gi gz0 gz1 gz2 rfl (by decide) An now.length now.length (now.map (Value.int .i64)) rfl (fun h => by have := hnn h; omega) (by simp) (olds_of R1.out.now) ⟨wr.heap.size + 1, 0, none⟩ 1 1 [.int .i64 x] rfl rfl (news_one (by simp) _ _ 1) (one_one rfl) (by omega) (by have := few.out.1; unfold maxLen; omega) (by have := few.out.1; omega) ?_; intro v' w3 hown hgrow; have hC3 := (Chg.refl (fun _ => True) _).grown hgrow (fun _ _ _ h => by cases h); have R3 := Lib.hid ((R1.out.chg hC3).setNow (xs := now ++ [x]) (v4' := v') (RdI.of_own (by rw [List.map_append, List.length_append]; exact own_lower hown (by simp; omega)))); have kb3 := kb.out.chg hC3 trivial; have q0 : w3.cell? ⟨wr.heap.size, 0, none⟩ = some (.bool false) := kb3.cell 0; have q1 : w3.cell? ⟨wr.heap.size, 0 + 1, none⟩ = some (.int .i64 0) := kb3.cell 1; obtain ⟨p0, p1⟩ := R3.out.said hlt (b := false) (y := 0) (by rw [hts.out.2]; simp [refStep]); clear hown hgrow hC3 kb3)
        go_wp2
        go_region
        go_wp2
        go_roundg (gk - 1)
        case measure => omega
        case rel => exact ⟨k + 1, by omega, by go_num, by unfold Rnd; rw [hts.out.1]; have R4 := R3.out.chg ((Chg.refl _ w3).drew); simpa [refStep] using R4⟩
      · have b1 : (d == 1) = false := beq_eq_false_iff_ne.2 h1
        have hsz := R0.out.old.size
        by_cases h23 : d = 2 ∨ d = 3
        · have h4 : ¬ d = 4 := by omega
          by_cases hnow : now = []
          · subst hnow
            have hs : refStep ⟨[], kept⟩ d x = (⟨[], kept⟩, (false, 0)) := by rcases h23 with rfl | rfl <;> simp [refStep]
            obtain ⟨o0, o1⟩ := R0.out.said hlt (b := false) (y := 0) (by rw [hts.out.2, hs])
            rw [hs] at hts
            clear hs
            rcases h23 with rfl | rfl
            all_goals
              go_wp2
              go_region
              go_wp2
              go_roundg (gk - 1)
              case measure => omega
              case rel => exact ⟨k + 1, by omega, by go_num, by unfold Rnd; rw [hts.out.1]; exact R0.out.chg (((Chg.refl _ _).alloc _).drew)⟩
          · obtain ⟨g, arr, rfl, hgb, hgk, hgr⟩ := HN.out hnow
            obtain ⟨now', y, rfl⟩ : ∃ now' y, now = now' ++ [y] := ⟨now.dropLast, now.getLast hnow, (List.dropLast_concat_getLast hnow).symm⟩
            have hglt : g < wr.heap.size := hgk.lt
            have g0 : wr.cell? ⟨g, now'.length, none⟩ = some (.int .i64 y) := by
              rw [hgk.cell, hgr _ (by simp)]
              simp
            have hf := few.out.1
            rw [List.length_append, List.length_cons, List.length_nil] at hcn hf
            have hcn1 : now'.length ≤ cn := by omega
            clear hgr hnow HN
            rcases h23 with rfl | rfl
            · have hs : refStep ⟨now' ++ [y], kept⟩ 2 x = (⟨now', kept⟩, (true, y)) := by simp [refStep]
              obtain ⟨o0, o1⟩ := R0.out.said hlt (b := true) (y := y) (by rw [hts.out.2, hs])
              rw [hs] at hts
              clear hs
              go_wp2
              go_region
              go_wp2
              go_roundg (gk - 1)
              case measure => omega
              case rel =>
                refine ⟨k + 1, by omega, by go_num, ?_⟩
                unfold Rnd
                rw [hts.out.1]
                have R4 := R0.out.chg (((Chg.refl _ wr).alloc (.cells #[.bool true, .int .i64 y] 30)).drew)
                have hn := R4.now.take now'.length (by simp)
                rw [List.take_left] at hn
                exact R4.setNow hn
            · have hs : refStep ⟨now' ++ [y], kept⟩ 3 x = (⟨now' ++ [y], kept⟩, (true, y)) := by simp [refStep]
              obtain ⟨o0, o1⟩ := R0.out.said hlt (b := true) (y := y) (by rw [hts.out.2, hs])
              rw [hs] at hts
              clear hs
              go_wp2
              go_region
              go_wp2
              go_roundg (gk - 1)
              case measure => omega
              case rel =>
                refine ⟨k + 1, by omega, by go_num, ?_⟩
                unfold Rnd
                rw [hts.out.1]
                have R4 := R0.out.chg (((Chg.refl _ wr).alloc (.cells #[.bool true, .int .i64 y] 30)).drew)
                rw [List.length_append, List.length_cons, List.length_nil] at R4
                exact R4
        · have b2 : (d == 2) = false := beq_eq_false_iff_ne.2 (by omega)
          have b3 : (d == 3) = false := beq_eq_false_iff_ne.2 (by omega)
          by_cases h4 : d = 4
          · subst h4
            by_cases hnow : now = []
            · subst hnow
              have hs : refStep ⟨[], kept⟩ 4 x = (⟨[], kept⟩, (true, 1)) := by simp [refStep]
              obtain ⟨o0, o1⟩ := R0.out.said hlt (b := true) (y := 1) (by rw [hts.out.2, hs])
              rw [hs] at hts
              clear hs
              go_wp2
              go_region
              go_wp2
              go_roundg (gk - 1)
              case measure => omega
              case rel => exact ⟨k + 1, by omega, by go_num, by unfold Rnd; rw [hts.out.1]; exact R0.out.chg (((Chg.refl _ _).alloc _).drew)⟩
            · have hnl : 0 < now.length := List.length_pos_iff.2 hnow
              have hn0 : ((now.length : Int) == 0) = false := beq_eq_false_iff_ne.2 (by omega)
              have hs : refStep ⟨now, kept⟩ 4 x = (⟨now, kept⟩, (true, 0)) := by simp [refStep, hnow]
              obtain ⟨o0, o1⟩ := R0.out.said hlt (b := true) (y := 0) (by rw [hts.out.2, hs])
              rw [hs] at hts
              clear hs hnow HN
              go_wp2
              go_region
              go_wp2
              go_roundg (gk - 1)
              case measure => omega
              case rel => exact ⟨k + 1, by omega, by go_num, by unfold Rnd; rw [hts.out.1]; exact R0.out.chg (((Chg.refl _ _).alloc _).drew)⟩
          · have b4 : (d == 4) = false := beq_eq_false_iff_ne.2 h4
            by_cases h5 : d = 5
            · subst h5
              have hs : refStep ⟨now, kept⟩ 5 x = (⟨now, kept ++ [now]⟩, (false, 0)) := by simp [refStep]
              have hsaid : saidAt ops k = (false, 0) := by rw [hts.out.2, hs]
              rw [hs] at hts
              have HS := Lib.hid hsaid
              clear hs hsaid HN
              have R1 := Lib.hid (R0.out.chg (((Chg.refl (fun _ => True) wr).alloc (.cells #[.bool false, .int .i64 0] 30)).alloc (.cells #[.slice An now.length cn] 27)))
              have kb := Lib.hid (((Blk.new wr #[.bool false, .int .i64 0] 30).alloc (.cells #[.slice An now.length cn] 27)))
              obtain ⟨vs, hvs, hall⟩ := R1.out.kept
              have HA := Lib.hid hall
              clear hall
              go_wp2_with (at_builtin; refine wpList_append_own _ rfl (.tmp 78) (.tmp 80) 28 rfl w.heap.size 27 i0 _ 1 24 Try.underlying28 hi hz0 hz1 hz2 rfl (by decide) _ _ _ rfl hvs ⟨wr.heap.size + 1, 0, none⟩ 1 1 [.slice An now.length cn] rfl rfl ?c0 (one_one rfl) ?c1 ?c2 ?c3 ?c4)
              case c1 => have : kept.length ≤ k := few.out.2.1; unfold maxLen; omega
              case c2 => have : kept.length ≤ k := few.out.2.1; omega
              case c3 => first | omega | (simp; omega)
              case c4 =>
                intro v5' w3 hown hgrow _
                have R3 := Lib.hid (R1.out.keep hvs HA.out hgrow hown)
                have hC : Chg (fun b => some b ≠ u5.ownBlock) _ w3 := (Chg.refl _ _).grown hgrow fun _ _ hb => hb
                have kb3 := kb.out.chg hC (own_ne hvs kb.out (by decide))
                have q0 : w3.cell? ⟨wr.heap.size, 0, none⟩ = some (.bool false) := kb3.cell 0
                have q1 : w3.cell? ⟨wr.heap.size, 0 + 1, none⟩ = some (.int .i64 0) := kb3.cell 1
                obtain ⟨p0, p1⟩ := R3.out.said hlt HS.out
                clear hown hgrow hC kb3 hvs HA
                go_wp2
                go_region
                go_wp2
                go_roundg (gk - 1)
                case measure => omega
                case rel => exact ⟨k + 1, by omega, by go_num, by unfold Rnd; rw [hts.out.1]; exact R3.out.chg ((Chg.refl _ _).drew)⟩
            · have b5 : (d == 5) = false := beq_eq_false_iff_ne.2 h5
              by_cases h6 : d = 6
              · subst h6
                by_cases hkept : kept = []
                · subst hkept
                  obtain ⟨vs, hvs, _⟩ := R0.out.kept
                  obtain ⟨A5, c5, rfl⟩ := own_len hvs
                  have hs : refStep ⟨now, []⟩ 6 x = (⟨now, []⟩, (false, 0)) := by simp [refStep]
                  obtain ⟨o0, o1⟩ := R0.out.said hlt (b := false) (y := 0) (by rw [hts.out.2, hs])
                  rw [hs] at hts
                  clear hs HN hvs
                  go_wp2
                  go_region
                  go_wp2
                  go_roundg (gk - 1)
                  case measure => omega
                  case rel => exact ⟨k + 1, by omega, by go_num, by unfold Rnd; rw [hts.out.1]; exact R0.out.chg (((Chg.refl _ _).alloc _).drew)⟩
                · obtain ⟨kept', l', rfl⟩ : ∃ kept' l', kept = kept' ++ [l'] := ⟨kept.dropLast, kept.getLast hkept, (List.dropLast_concat_getLast hkept).symm⟩
                  obtain ⟨vs, hvs, _⟩ := R0.out.kept
                  obtain ⟨g, c5, hu5, _, hglt⟩ := hvs.form (by simp)
                  subst hu5
                  have hf := few.out.2.1
                  have hcap := own_cap hvs
                  have hlen : (kept' ++ [l']).length = kept'.length + 1 := by simp
                  rw [hlen] at hf hcap
                  have hcap1 : kept'.length ≤ c5 := by omega
                  rw [hlen] at R0
                  obtain ⟨v, g0, RL⟩ := R0.out.last (q := kept'.length) hlen
                  have hs : refStep ⟨now, kept' ++ [l']⟩ 6 x = (⟨l', kept'⟩, (false, 0)) := by simp [refStep]
                  obtain ⟨o0, o1⟩ := R0.out.said hlt (b := false) (y := 0) (by rw [hts.out.2, hs])
                  rw [hs] at hts
                  have e1 : (kept' ++ [l']).getD kept'.length [] = l' := by simp
                  have e2 : (kept' ++ [l']).take kept'.length = kept' := by simp
                  have RL2 := Lib.hid RL
                  rw [e1, e2] at RL2
                  clear hs HN hvs RL e1 e2 hlen hkept
                  go_wp2
                  go_region
                  go_wp2
                  go_roundg (gk - 1)
                  case measure => omega
                  case rel => exact ⟨k + 1, by omega, by go_num, by unfold Rnd; rw [hts.out.1]; exact RL2.out.chg (((Chg.refl _ _).alloc _).drew)⟩
              · have b6 : (d == 6) = false := beq_eq_false_iff_ne.2 h6
                have hs : refStep ⟨now, kept⟩ d x = (⟨now, kept⟩, (false, 0)) := by
                  unfold refStep
                  rw [if_neg h1, if_neg (by omega), if_neg (by omega), if_neg h4, if_neg h5, if_neg h6]
                obtain ⟨o0, o1⟩ := R0.out.said hlt (b := false) (y := 0) (by rw [hts.out.2, hs])
                rw [hs] at hts
                clear hs HN
                clear h1 h23 h4 h5 h6
                go_wp2
                go_region
                go_wp2
                go_roundg (gk - 1)
                case measure => omega
                case rel => exact ⟨k + 1, by omega, by go_num, by unfold Rnd; rw [hts.out.1]; exact R0.out.chg (((Chg.refl _ _).alloc _).drew)⟩
    · obtain rfl : k = ops.length := by omega
      go_wp2
      go_ret
      exact ⟨rfl, R.old.below (Nat.le_refl _)⟩

end Go.Proofs.Ytaehbephmjolcaa
