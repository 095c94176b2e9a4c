/-
  The walk of a run of calls on a stack.
  Conditions: at most 1000 calls.
-/
import Derived.Test.YtaehbephmjolcaaStkRun
namespace Go.Proofs.Ytaehbephmjolcaa
open Go.RowKit

def Ran (w : World) (ops : List (Int × Int)) (e : Ending) (w' : World) : Prop :=
  ∃ O, e = .returned (.slice (some ⟨O, 0, none⟩) ops.length ops.length) ∧ w.heap.size ≤ O ∧ Blk w' O (saysOf (outs ops ops.length ops.length)).toArray 30 ∧ Chg (fun b => b < w.heap.size) w w'

/-- What the round sees of the machine. -/
def Loop (w wr : World) (g O : Nat) (ops : List (Int × Int)) (k : Nat) (s4 : Value) : Prop := ∃ v, Run w wr g O ops (macTo ops k) k v s4

theorem toStep {ops : List (Int × Int)} {k : Nat} {m : Mac} {d x : Int} (hm : macTo ops k = m) (hd : ops.getD k (0, 0) = (d, x)) : macTo ops (k + 1) = (step m d x).1 ∧ saidAt ops k = (step m d x).2 := by
  unfold saidAt
  rw [macTo, hm, hd]
  exact ⟨rfl, rfl⟩

theorem as3 (v : Value) (w : World) : (Instr.typeAssert (.iface 3 v) 20 3 false).run Try.prog w = .ok v w := by kernel_rfl
theorem own_cap {w : World} {base : Nat} {e : TypeId} {size n c : Nat} {A : Option Addr} {xs : List Value} (h : w.ownsRow base e size (.slice A n c) n xs) : n ≤ c := by
  rcases h.2 with ⟨h0, h1⟩ | ⟨g, cap, cur, h0, _, _, h1, _⟩
  · omega
  · cases h0; exact h1
theorem svRow_snoc (l : List (Int × Int)) (a b : Int) : svRow (l ++ [(a, b)]) = svRow l ++ [.int .i64 a, .int .i64 b] := by simp [svRow]
theorem svRow_length (l : List (Int × Int)) : (svRow l).length = l.length * 2 := flat_length _ (fun _ => rfl) l
theorem last_ (l : List (Int × Int)) (a : Int × Int) : (l ++ [a]).getD ((l ++ [a]).length - 1) (0, 0) = a ∧ (l ++ [a]).take ((l ++ [a]).length - 1) = l := by simp
theorem snoc_of {l : List (Int × Int)} (h : l ≠ []) : ∃ l' a b, l = l' ++ [(a, b)] := ⟨l.dropLast, (l.getLast h).1, (l.getLast h).2, (List.dropLast_concat_getLast h).symm⟩

set_option maxHeartbeats 4000000 in
set_option maxRecDepth 100000 in
theorem stack_any (w : World) (A : Option Addr) (c : Nat) (ops : List (Int × Int)) (hn : ops.length ≤ 1000) (hr : Calls_ w A ops) :
    Calls Try.prog 6 #[.slice A ops.length c] w (Ran w ops) := by
  have hmk := run_make_wide (P := Try.prog) 25 30 _ 2 16 Try.underlying25 Try.info30 .i64 .i64 ops.length (by omega) (by omega)
  obtain ⟨i0, hi, hz0, hz1, hz2⟩ := info_parts Try.info42
  have hta := as3
  have HR := Lib.hid hr
  clear hr
  go_enter Try.func6, Try.ntmps6
  go_wp2_with (go_at_call 8; refine (znew_any _).mono ?_; rintro e w1 ⟨rfl, hs, hc⟩)
  go_loopg [4, 18] ops.length (fun gk s4 s18 wr => ∃ k, k + gk = ops.length ∧ s18 = .int .i64 k ∧ Loop w wr w.heap.size w1.heap.size ops k s4)
  case atStart =>
    refine ⟨0, by simp, rfl, .slice none 0 0, ⟨?_, World.ownsRow_nil _ _ _ _, ?_, hc.size, (hc.mono fun _ _ _ => trivial).alloc _⟩⟩
    · exact hs.chg ((Chg.refl (fun _ => True) _).alloc _) trivial fun _ _ => trivial
    · have hmd := made_said ops ops.length
      simp only [Value.cells] at hmd
      rw [hmd]
      exact Blk.new _ _ _
  case round =>
    obtain ⟨k, hk, rfl, v, R⟩ := hrel
    have HK := Lib.hid hk
    clear hmk hs hc
    by_cases hlt : k < ops.length
    · have ok := Lib.hid (macTo_ok ops k)
      obtain ⟨d, x, hd⟩ : ∃ d x, ops.getD k (0, 0) = (d, x) := ⟨_, _, rfl⟩
      obtain ⟨ds, i, l, sv, hm⟩ : ∃ ds i l sv, macTo ops k = ⟨ds, i, l, sv⟩ := ⟨_, _, _, _, rfl⟩
      have hts := Lib.hid (toStep hm hd)
      obtain ⟨b, o, rfl, hc0, hc1⟩ : ∃ b o, A = some ⟨b, o, none⟩ ∧ wr.cell? ⟨b, o + k * 2, none⟩ = some (.int .i64 d) ∧ wr.cell? ⟨b, o + k * 2 + 1, none⟩ = some (.int .i64 x) := by
        obtain ⟨b, o, hA, h0, h1⟩ := HR.out k hlt
        rw [hd] at h0 h1
        have hlb := World.block_lt_of_cell? w _ h0
        have hbk := R.old.block b hlb hlb
        exact ⟨b, o, hA, (World.cell?_of_block (w := w) hbk).trans h0, (World.cell?_of_block (w := w) hbk).trans h1⟩
      rw [hm] at R ok
      clear hd hm HR
      have Ra := Lib.hid (R.chg ((Chg.refl (fun _ => True) wr).alloc (.cells #[.int .i64 d, .int .i64 x] 32)))
      have R0 := Lib.hid R
      clear R
      by_cases h1 : d = 1
      · subst h1
        go_wp2_with (first
          | (go_at_call 9; refine (zempty_any _ _ _ _ _ _ _ Ra.out.stk).mono ?_; rintro e w2 ⟨rfl, rfl⟩)
          | (go_at_call 10; refine (zpush_any _ _ _ _ _ _ _ _ Ra.out.stk Ra.out.old.size (Nat.le_trans ok.out.few (by omega)) ok.out.i0 ok.out.i1 ok.out.l0 ok.out.l1).mono ?_; rintro e w2 ⟨rfl, v', hs2, hc2⟩))
        go_roundg (gk - 1)
        case measure => omega
        case rel => 
          have hs : step ⟨ds, i, l, sv⟩ 1 x = (⟨pushD ds i l x, max i l + 1, l, sv⟩, (false, 0)) := by simp [step]
          exact ⟨k + 1, by omega, by go_num, v', by rw [hts.out.1, hs]; exact (Ra.out.stk_ (m' := ⟨pushD ds i l x, max i l + 1, l, sv⟩) hc2 hs2 rfl).skip (by rw [hts.out.2, hs])⟩
      · have b1 : (d == 1) = false := beq_eq_false_iff_ne.2 h1
        by_cases h2 : d = 2
        · subst h2
          by_cases hE : i < 0
          · have hB : decide (i < 0) = true := by simpa using hE
            have HE := Lib.hid hE
            clear hE
            go_wp2_with (go_at_call 9; refine (zempty_any _ _ _ _ _ _ _ Ra.out.stk).mono ?_; rintro e w2 ⟨rfl, rfl⟩)
            go_roundg (gk - 1)
            case measure => omega
            case rel =>
              have hs : step ⟨ds, i, l, sv⟩ 2 x = (⟨ds, i, l, sv⟩, (false, 0)) := by simp [step, HE.out]
              exact ⟨k + 1, by omega, by go_num, v, by rw [hts.out.1, hs]; exact Ra.out.skip (by rw [hts.out.2, hs])⟩
          · have hB : decide (i < 0) = false := by simpa using hE
            have h0 : 0 ≤ i := by omega
            have HE := Lib.hid hE
            clear hE
            go_wp2_with (first
              | (go_at_call 9; refine (zempty_any _ _ _ _ _ _ _ Ra.out.stk).mono ?_; rintro e w2 ⟨rfl, rfl⟩)
              | (go_at_call 11; refine (zpop_any _ _ _ _ _ _ _ Ra.out.stk h0 ok.out.i1 (Nat.le_trans ok.out.few (by omega))).mono ?_; rintro e w2 ⟨rfl, hs2, hc2⟩; have R2 := Lib.hid (Ra.out.one (m' := ⟨ds, (topOf ds i).2, l, sv⟩) hc2 hs2 rfl); clear hs2 hc2; obtain ⟨⟨y0, y1, o0, o1⟩, p0, p1⟩ := R2.out.cells hlt))
            go_roundg (gk - 1)
            case measure => omega
            case rel =>
              have hs : step ⟨ds, i, l, sv⟩ 2 x = (⟨ds, (topOf ds i).2, l, sv⟩, (true, (topOf ds i).1)) := by simp [step, HE.out]
              exact ⟨k + 1, by omega, by go_num, v, by rw [hts.out.1, hs]; exact R2.out.said hlt _ _ (by rw [hts.out.2, hs])⟩
        · have b2 : (d == 2) = false := beq_eq_false_iff_ne.2 h2
          by_cases h3 : d = 3
          · subst h3
            by_cases hE : i < 0
            · have hB : decide (i < 0) = true := by simpa using hE
              have HE := Lib.hid hE
              clear hE
              go_wp2_with (go_at_call 9; refine (zempty_any _ _ _ _ _ _ _ Ra.out.stk).mono ?_; rintro e w2 ⟨rfl, rfl⟩)
              go_roundg (gk - 1)
              case measure => omega
              case rel =>
                have hs : step ⟨ds, i, l, sv⟩ 3 x = (⟨ds, i, l, sv⟩, (false, 0)) := by simp [step, HE.out]
                exact ⟨k + 1, by omega, by go_num, v, by rw [hts.out.1, hs]; exact Ra.out.skip (by rw [hts.out.2, hs])⟩
            · have hB : decide (i < 0) = false := by simpa using hE
              have h0 : 0 ≤ i := by omega
              have HE := Lib.hid hE
              clear hE
              go_wp2_with (first
                | (go_at_call 9; refine (zempty_any _ _ _ _ _ _ _ Ra.out.stk).mono ?_; rintro e w2 ⟨rfl, rfl⟩)
                | (go_at_call 12; refine (ztop_any _ _ _ _ _ _ _ Ra.out.stk h0 ok.out.i1 (Nat.le_trans ok.out.few (by omega))).mono ?_; rintro e w2 ⟨rfl, hc2⟩; have R2 := Lib.hid (Ra.out.chg hc2); clear hc2; obtain ⟨⟨y0, y1, o0, o1⟩, p0, p1⟩ := R2.out.cells hlt))
              go_roundg (gk - 1)
              case measure => omega
              case rel =>
                have hs : step ⟨ds, i, l, sv⟩ 3 x = (⟨ds, i, l, sv⟩, (true, (topOf ds i).1)) := by simp [step, HE.out]
                exact ⟨k + 1, by omega, by go_num, v, by rw [hts.out.1, hs]; exact R2.out.said hlt _ _ (by rw [hts.out.2, hs])⟩
          · have b3 : (d == 3) = false := beq_eq_false_iff_ne.2 h3
            by_cases h4 : d = 4
            · subst h4
              obtain ⟨⟨y0, y1, o0, o1⟩, p0, p1⟩ := Ra.out.cells hlt
              by_cases hE : i < 0
              · have hB : decide (i < 0) = true := by simpa using hE
                have HE := Lib.hid hE
                clear hE
                go_wp2_with (go_at_call 9; refine (zempty_any _ _ _ _ _ _ _ Ra.out.stk).mono ?_; rintro e w2 ⟨rfl, rfl⟩)
                go_roundg (gk - 1)
                case measure => omega
                case rel =>
                  have hs : step ⟨ds, i, l, sv⟩ 4 x = (⟨ds, i, l, sv⟩, (true, 1)) := by simp [step, HE.out]
                  exact ⟨k + 1, by omega, by go_num, v, by rw [hts.out.1, hs]; exact Ra.out.said hlt _ _ (by rw [hts.out.2, hs])⟩
              · have hB : decide (i < 0) = false := by simpa using hE
                have HE := Lib.hid hE
                clear hE
                go_wp2_with (go_at_call 9; refine (zempty_any _ _ _ _ _ _ _ Ra.out.stk).mono ?_; rintro e w2 ⟨rfl, rfl⟩)
                go_roundg (gk - 1)
                case measure => omega
                case rel =>
                  have hs : step ⟨ds, i, l, sv⟩ 4 x = (⟨ds, i, l, sv⟩, (true, 0)) := by simp [step, HE.out]
                  exact ⟨k + 1, by omega, by go_num, v, by rw [hts.out.1, hs]; exact Ra.out.said hlt _ _ (by rw [hts.out.2, hs])⟩
            · have b4 : (d == 4) = false := beq_eq_false_iff_ne.2 h4
              by_cases h5 : d = 5
              · subst h5
                go_wp2_with (first
                  | (go_at_call 9; refine (zempty_any _ _ _ _ _ _ _ Ra.out.stk).mono ?_; rintro e w2 ⟨rfl, rfl⟩)
                  | (go_at_call 13; refine (zsave_any _ _ _ _ _ _ _ Ra.out.stk).mono ?_; rintro e w2 ⟨rfl, hs2, hc2⟩; have R2 := Lib.hid (Ra.out.one (m' := ⟨ds, i, max i l, sv⟩) hc2 hs2 rfl); clear hs2 hc2)
                  | (at_builtin; refine wpList_append_own _ rfl (.tmp 92) (.tmp 96) 36 rfl w.heap.size 42 i0 _ 2 16 Try.underlying36 hi hz0 hz1 hz2 rfl (by decide) _ _ _ rfl (R2.out.sav.alloc _) _ 1 1 [.int .i64 i, .int .i64 l] rfl rfl (cell_two_new _ _ _ _) (one_two rfl rfl) ?c1 ?c2 ?c3 ?c4))
                case c1 => have : sv.length ≤ k := ok.out.kept; unfold maxLen; omega
                case c2 => have : sv.length ≤ k := ok.out.kept; omega
                case c3 => have := R2.out.old.size; simp; omega
                case c4 =>
                  intro v4 w3 hown hgrow _
                  go_wp2
                  go_roundg (gk - 1)
                  case measure => omega
                  case rel =>
                    have hs : step ⟨ds, i, l, sv⟩ 5 x = (⟨ds, i, max i l, sv ++ [(i, l)]⟩, (false, 0)) := by simp [step]
                    refine ⟨k + 1, by omega, by go_num, v, ?_⟩
                    rw [hts.out.1, hs]
                    refine ((R2.out.chg ((Chg.refl _ _).alloc _)).sav_ (m' := ⟨ds, i, max i l, sv ++ [(i, l)]⟩) hgrow ?_ rfl rfl rfl).skip (by rw [hts.out.2, hs])
                    rw [svRow_snoc, List.length_append]
                    exact hown
              · have b5 : (d == 5) = false := beq_eq_false_iff_ne.2 h5
                by_cases h6 : d = 6
                · subst h6
                  obtain ⟨A4, c4, rfl⟩ := own_len Ra.out.sav
                  by_cases hsv : sv = []
                  · subst hsv
                    go_wp2_with (go_at_call 9; refine (zempty_any _ _ _ _ _ _ _ Ra.out.stk).mono ?_; rintro e w2 ⟨rfl, rfl⟩)
                    go_roundg (gk - 1)
                    case measure => omega
                    case rel =>
                      have hs : step ⟨ds, i, l, []⟩ 6 x = (⟨ds, i, l, []⟩, (false, 0)) := by simp [step]
                      exact ⟨k + 1, by omega, by go_num, v, by rw [hts.out.1, hs]; exact Ra.out.skip (by rw [hts.out.2, hs])⟩
                  · obtain ⟨sv', p, q, rfl⟩ := snoc_of hsv
                    have hkept := ok.out.kept
                    simp only [List.length_append, List.length_cons, List.length_nil] at hkept
                    obtain ⟨gb, cb, hA4, _, hgb⟩ := R0.out.sav.form (by simp)
                    cases hA4
                    have hcap : sv'.length ≤ c4 := by
                      have := own_cap R0.out.sav
                      rw [List.length_append, List.length_cons, List.length_nil] at this
                      omega
                    have hlen := svRow_length (sv' ++ [(p, q)])
                    rw [List.length_append, List.length_cons, List.length_nil] at hlen
                    have s0 : wr.cell? ⟨gb, sv'.length * 2, none⟩ = some (.int .i64 p) := by
                      rw [R0.out.sav.cellAt _ (by simp), svRow_snoc, List.getElem?_append_right (by rw [svRow_length]; omega), svRow_length]
                      simp
                    have s1 : wr.cell? ⟨gb, sv'.length * 2 + 1, none⟩ = some (.int .i64 q) := by
                      rw [R0.out.sav.cellAt _ (by simp; omega), svRow_snoc, List.getElem?_append_right (by rw [svRow_length]; omega), svRow_length]
                      simp
                    clear hlen
                    clear hsv
                    go_wp2_with (first
                      | (go_at_call 9; refine (zempty_any _ _ _ _ _ _ _ Ra.out.stk).mono ?_; rintro e w2 ⟨rfl, rfl⟩)
                      | (go_at_call 14; refine (zrestore_any _ _ _ _ _ _ _ _ _ (Ra.out.chg ((Chg.refl _ _).alloc _)).stk).mono ?_; rintro e w2 ⟨rfl, hs2, hc2⟩))
                    go_roundg (gk - 1)
                    case measure => omega
                    case rel =>
                      have hs : step ⟨ds, i, l, sv' ++ [(p, q)]⟩ 6 x = (⟨ds, p, q, sv'⟩, (false, 0)) := by simp [step]
                      refine ⟨k + 1, by omega, by go_num, v, ?_⟩
                      rw [hts.out.1, hs]
                      have R3 := (Ra.out.chg ((Chg.refl _ _).alloc _)).one (m' := ⟨ds, p, q, sv' ++ [(p, q)]⟩) hc2 hs2 rfl
                      have R4 := R3.sav_ (m' := ⟨ds, p, q, sv'⟩) (wr' := w2) (s4' := .slice (some ⟨gb, 0, none⟩) sv'.length c4) ⟨rfl, rfl, rfl, Nat.le_refl _, fun _ _ _ => rfl⟩ ?_ rfl rfl rfl
                      · exact R4.skip (by rw [hts.out.2, hs])
                      · have h4 := R3.sav
                        rw [List.length_append, List.length_cons, List.length_nil, svRow_snoc] at h4
                        exact ownsRow_pop (svRow_length _) h4
                · have b6 : (d == 6) = false := beq_eq_false_iff_ne.2 h6
                  have hs := Lib.hid (show step ⟨ds, i, l, sv⟩ d x = (⟨ds, i, l, sv⟩, (false, 0)) by simp [step, h1, h2, h3, h4, h5, h6])
                  clear h1 h2 h3 h4 h5 h6
                  go_wp2_with (go_at_call 9; refine (zempty_any _ _ _ _ _ _ _ Ra.out.stk).mono ?_; rintro e w2 ⟨rfl, rfl⟩)
                  go_roundg (gk - 1)
                  case measure => omega
                  case rel => exact ⟨k + 1, by omega, by go_num, v, by rw [hts.out.1, hs.out]; exact Ra.out.skip (by rw [hts.out.2, hs.out])⟩
    · obtain rfl : k = ops.length := by omega
      go_wp2
      go_ret
      exact ⟨_, rfl, R.base, R.out, R.old⟩

end Go.Proofs.Ytaehbephmjolcaa
