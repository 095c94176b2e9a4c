/-
  A decimal divided by a power of two: the walk of half.
  Conditions: none.
-/
import Derived.Test.YthggnkmlnjlggaaGreatDoorDcm2
import Derived.Laws.BitsAll
namespace Go.Proofs.YthggnkmlnjlggaaGreatDoor
open Go.RowKit

/-- A decimal that has been divided. -/
def HalfAns (w : World) (g : Nat) (ds : List Nat) (dp : Int) (k : Nat) (e : Ending) (w' : World) : Prop :=
  e = .returned (.tuple #[]) ∧ ∃ v' ds' dp', DecAt w' g v' ds' dp' ∧ Canon ds' ∧ ds'.length ≤ 100 ∧ dp - 20 ≤ dp' ∧ dp' ≤ dp ∧ (∀ s : Nat, 200 ≤ s → sc s ds' dp' * 2 ^ k = sc s ds dp) ∧ Chg (fun b => b ≠ g) w w'
theorem and_mask {n q k : Nat} (hq : q = 2 ^ k) (hk : k ≤ 59) (hn : n < 18446744073709551616) : bits .and .u64 (n : Int) ((q : Int) - 1) = ((n % q : Nat) : Int) := by
  have hp := Nat.pow_le_pow_right (show 0 < 2 by decide) hk
  have hp1 := Nat.two_pow_pos k
  have h1 : q ≤ 576460752303423488 := by rw [hq]; simpa using hp
  have h2 : 0 < q := by omega
  rw [show ((q : Int) - 1) = ((q - 1 : Nat) : Int) by omega, u64_and_nat n (q - 1) hn (by omega), hq, Nat.and_two_pow_sub_one_eq_mod]
/-- The division so far: m digits out, n left. -/
structure HalfS (w wr : World) (g : Nat) (v1 : Value) (ds : List Nat) (dp' : Int) (q i0 m n : Nat) (O : List Nat) (v : Value) : Prop where
  blk : Blk wr g #[v1, .int .i64 dp'] 201
  row : wr.ownsRow w.heap.size 5 1 v m (dcells O)
  len : O.length = m
  lt : ∀ d ∈ O, d < 10
  head : m = 0 ∧ q ≤ n ∨ 0 < m ∧ O.head? ≠ some 0
  sum : pre ds (i0 + m) = vald O * (10 * q) + n
  left : n < 10 * q
  chg : Chg (fun b => b ≠ g) w wr
theorem HalfS.put {w wr w4 : World} {g : Nat} {v1 : Value} {ds : List Nat} {dp' : Int} {q k i0 m n e d gn cap : Nat} {O : List Nat} {v : Value} (h : HalfS w wr g v1 ds dp' q i0 m n O v) (hq : q = 2 ^ k) (he : e = n / q) (hd : d = ds.getD (i0 + m) 0) (hd10 : d < 10) (hg : g < w.heap.size)
    {x : Value} {t : TypeId} (hown : w4.ownsRow w.heap.size 5 1 (.slice (some ⟨gn, 0, none⟩) (m + 1) cap) (m + 1) (dcells O ++ [.int .u8 (e : Nat)])) (hgrow : (wr.alloc (.cells #[x] t)).grownBy w4 v.ownBlock) :
    HalfS w w4 g v1 ds dp' q i0 (m + 1) (n % q * 10 + d) (O ++ [e]) (.slice (some ⟨gn, 0, none⟩) (m + 1) cap) := by
  have hqp : 0 < q := by rw [hq]; exact Nat.two_pow_pos k
  have hlow := fun b (hb : v.ownBlock = some b) => (own_lt h.row hb).1
  have he10 : e < 10 := by
    rw [he]
    exact (Nat.div_lt_iff_lt_mul hqp).2 h.left
  refine ⟨(h.blk.alloc _).chg (Chg.grown (ok := fun b => some b ≠ v.ownBlock) (Chg.refl _ _) hgrow fun _ _ ho => ho) fun e => ?_, ?_, by simp [h.len], fun x hx => ?_, .inr ⟨by omega, ?_⟩, ?_, ?_, (h.chg.alloc _).grown hgrow fun b hb _ e => ?_⟩
  · have := hlow g e.symm
    omega
  · have e1 : dcells O ++ [.int .u8 (e : Nat)] = dcells (O ++ [e]) := by simp [dcells]
    rw [← e1]
    exact hown
  · rcases List.mem_append.1 hx with hx | hx
    · exact h.lt x hx
    · obtain rfl := List.mem_singleton.1 hx
      exact he10
  · rcases h.head with ⟨h0, hqn⟩ | ⟨h0, hh⟩
    · have : O = [] := List.eq_nil_of_length_eq_zero (by rw [h.len, h0])
      subst this
      have : 1 ≤ e := by
        rw [he]
        exact (Nat.one_le_div_iff hqp).2 hqn
      simp
      omega
    · have hne : O ≠ [] := fun e => by rw [e] at h; have := h.len; simp at this; omega
      match O, hne with
      | a :: r, _ => simpa using hh
  · have hs := h.sum
    subst hq
    rw [show i0 + (m + 1) = i0 + m + 1 by omega, pre, ← hd, half_step hs, vald_snoc, he]
  · subst hq
    exact half_left hd10
  · have := hlow b e.symm
    omega
set_option maxHeartbeats 4000000 in
set_option maxRecDepth 100000 in
theorem dhalf_any (w : World) (g : Nat) (v : Value) (ds : List Nat) (dp : Int) (hc : Canon ds) (hl : ds.length ≤ 20) (hd : 0 ≤ dp ∧ dp ≤ 100) (k : Nat) (hk : 1 ≤ k ∧ k ≤ 59) (h : DecAt w g v ds dp) :
    Calls Tryz.prog 152 #[.pointer (some ⟨g, 0, none⟩), .int .i64 (k : Nat)] w (HalfAns w g ds dp k) := by
  obtain ⟨A, c, rfl, hcap⟩ := h.row.len
  have H := Lib.hid h
  have x0 : w.cell? ⟨g, 0, none⟩ = some (.slice A ds.length c) := h.blk.cell 0
  have HC := Lib.hid hc
  have hp59 : 2 ^ k ≤ 576460752303423488 := by
    have := Nat.pow_le_pow_right (show 0 < 2 by decide) hk.2
    simpa using this
  have hp1 : 0 < 2 ^ k := Nat.two_pow_pos k
  obtain ⟨hk1, hk2⟩ := hk
  have hlen0 := hc.pos
  clear h hc
  have y1 : w.cell? ⟨g, 1, none⟩ = some (.int .i64 dp) := H.out.blk.cell 1
  have yf1 := H.out.blk.frozen 1
  obtain ⟨q, hq⟩ : ∃ q, q = 2 ^ k := ⟨_, rfl⟩
  have hqi : (2 : Int) ^ k = ((q : Nat) : Int) := by rw [hq]; simp
  rw [← hq] at hp59 hp1
  have HQ := Lib.hid hq
  have hq1 := hp1
  obtain ⟨iv, hi, hz0, hz1, hz2⟩ := info_parts Tryz.infoByte
  have HI := Lib.hid hi
  have HZ0 := Lib.hid hz0
  have HZ1 := Lib.hid hz1
  have HZ2 := Lib.hid hz2
  clear hi hz0 hz1 hz2
  obtain ⟨hd1, hd2⟩ := hd
  clear hq hp1
  go_enter Tryz.func152, Tryz.ntmps152
  go_wp2
  go_loopg [4, 5] 21 (fun gk s4 s5 wr => ∃ i, i + gk = 21 ∧ s4 = .int .u64 (pre ds i : Nat) ∧ s5 = .int .i64 (i : Nat) ∧ pre ds i < 10 * 2 ^ k ∧ w = wr)
  case atStart => exact ⟨0, rfl, rfl, rfl, by show 0 < 10 * 2 ^ k; have := Nat.two_pow_pos k; omega, rfl⟩
  case round =>
    obtain ⟨i, hi, rfl, rfl, hP, rfl⟩ := hrel
    obtain ⟨P, hPe⟩ : ∃ P, P = pre ds i := ⟨_, rfl⟩
    rw [← hPe] at hP ⊢
    rw [← HQ.out] at hP
    have hlow : i = 0 ∨ 0 < P := by
      rcases Nat.eq_zero_or_pos i with h | h
      · exact .inl h
      · obtain ⟨j, rfl⟩ : ∃ j, i = j + 1 := ⟨i - 1, by omega⟩
        have := pre_low HC.out j
        have : 0 < 10 ^ j := Nat.pow_pos (by decide)
        exact .inr (by omega)
    by_cases hq0 : P < q
    · have hi18 : i ≤ 18 := by
        rcases Nat.lt_or_ge 18 i with h | h
        · obtain ⟨j, rfl⟩ : ∃ j, i = j + 1 := ⟨i - 1, by omega⟩
          have h1 := pre_low HC.out j
          have h2 := Nat.pow_le_pow_right (show 0 < 10 by decide) (show 18 ≤ j by omega)
          omega
        · exact h
      have hz : (((P : Nat) : Int) / ((q : Nat) : Int) == 0) = true := by rw [beq_iff_eq]; exact Int.ediv_eq_zero_of_lt (by omega) (by omega)
      have HPE := Lib.hid hPe
      clear hPe
      by_cases hil : i < ds.length
      · obtain ⟨b, o, rfl, hb, k0⟩ := DRow.at_ H.out.row i hil
        have hd10 := pre_digit HC.out.lt i
        obtain ⟨d, hdd⟩ : ∃ d, d = ds.getD i 0 := ⟨_, rfl⟩
        rw [← hdd] at k0 hd10
        have HDD := Lib.hid hdd
        clear hdd
        go_wp2
        go_roundg (gk - 1)
        case measure => omega
        case rel => exact ⟨i + 1, by omega, by rw [pre, ← HPE.out, ← HDD.out]; congr 1; push_cast; omega, by go_num, by rw [pre, ← HPE.out, ← HDD.out, ← HQ.out]; omega, rfl⟩
      · have hP0 : 0 < P := by omega
        have hPz : (((P : Nat) : Int) == 0) = false := by simp; omega
        have hdz : ds.getD i 0 = 0 := by simp [List.getD_eq_getElem?_getD, List.getElem?_eq_none (by omega : ds.length ≤ i)]
        have HDZ := Lib.hid hdz
        clear hdz
        go_wp2
        go_roundg (gk - 1)
        case measure => omega
        case rel => exact ⟨i + 1, by omega, by rw [pre, ← HPE.out, HDZ.out]; congr 1; push_cast; omega, by go_num, by rw [pre, ← HPE.out, HDZ.out, ← HQ.out]; omega, rfl⟩
    · have hz : (((P : Nat) : Int) / ((q : Nat) : Int) == 0) = false := by
        have h1 : q ≤ P := by omega
        have h2 : 1 ≤ P / q := (Nat.one_le_div_iff hq1).2 h1
        rw [beq_eq_false_iff_ne, ← Int.natCast_ediv]
        omega
      have hi1 : 1 ≤ i := by
        rcases Nat.eq_zero_or_pos i with h | h
        · subst h
          simp [pre] at hPe
          omega
        · exact h
      have HPE := Lib.hid hPe
      have hi21 : i ≤ 21 := by omega
      clear hPe hlow hi
      go_wp2
      have hst := (Chg.refl (fun b => b ≠ g) w).setCell ⟨g, 1, none⟩ (.int .i64 (dp - ((i : Nat) - 1))) (fun _ h => h rfl)
      have HST := Lib.hid hst
      have hgw : g < w.heap.size := H.out.blk.lt
      have HS0 := Lib.hid (show HalfS w (w.setCell ⟨g, 1, none⟩ (.int .i64 (dp - ((i : Nat) - 1)))) g (.slice A ds.length c) ds (dp - ((i : Nat) - 1)) q i 0 P [] (.slice none 0 0) from
        ⟨H.out.blk.set 1 _, World.ownsRow_nil _ _ _ _, rfl, (fun _ h => by (cases h)), .inl ⟨rfl, by omega⟩, by rw [Nat.add_zero, ← HPE.out]; simp [vald], hP, hst⟩)
      clear hst x0 y1 yf1 hz hq0
      go_loopg [4, 5, 6] (ds.length + k + 2) (fun gk s4 s5 s6 wr => ∃ m n O v, m + gk = ds.length + k + 2 ∧ s4 = .int .u64 (n : Nat) ∧ s5 = .int .i64 ((i + m : Nat) : Int) ∧ s6 = v ∧ HalfS w wr g (.slice A ds.length c) ds (dp - ((i : Nat) - 1)) q i m n O v)
      case atStart => exact ⟨0, _, _, _, by simp, rfl, rfl, rfl, HS0.out⟩
      case round =>
        obtain ⟨m, n, O, v, hm, rfl, rfl, rfl, R⟩ := hrel
        obtain ⟨A6, c6, rfl⟩ := own_len R.row
        have R0 := Lib.hid R
        have x0 : wr.cell? ⟨g, 0, none⟩ = some (.slice A ds.length c) := R.blk.cell 0
        have hlb := R.blk.lt
        have hn := R.left
        by_cases hil : i + m < ds.length
        · obtain ⟨b, o, rfl, hb, k0⟩ := DRow.at_ (SliceV.chg H.out.row R.chg) (i + m) hil
          have hd10 := pre_digit HC.out.lt (i + m)
          obtain ⟨d, hdd⟩ : ∃ d, d = ds.getD (i + m) 0 := ⟨_, rfl⟩
          rw [← hdd] at k0 hd10
          have HDD := Lib.hid hdd
          have hand := and_mask HQ.out hk2 (show n < 18446744073709551616 by omega)
          obtain ⟨r, hr⟩ : ∃ r, r = n % q := ⟨_, rfl⟩
          rw [← hr] at hand
          have hrq : r < q := by rw [hr]; exact Nat.mod_lt _ hq1
          have HRR := Lib.hid hr
          clear hr
          obtain ⟨e, hee⟩ : ∃ e, e = n / q := ⟨_, rfl⟩
          have hei : ((n : Nat) : Int) / ((q : Nat) : Int) = ((e : Nat) : Int) := by rw [hee]; simp
          have he10 : e < 10 := by rw [hee]; exact (Nat.div_lt_iff_lt_mul hq1).2 hn
          have HEE := Lib.hid hee
          clear hdd hee R
          go_wp2_with (at_builtin; go_must (refine wpList_append_lies _ rfl _ _ _ rfl w.heap.size 5 iv _ 1 1 Tryz.underlying75 HI.out HZ0.out HZ1.out HZ2.out rfl (by decide) (.slice A6 m c6) m (dcells O) rfl (own_old R0.out.row ((Old.refl _).alloc _)) ⟨wr.heap.size, 0, none⟩ 1 1 [.int .u8 (e : Nat)] rfl rfl (news_blk (cs := #[.int .u8 (e : Nat)]) (Blk.new wr _ _)) (one_one rfl) (by decide) (by unfold maxLen; omega) (by omega) (by have := R0.out.chg.size; simp; omega) (wr.heap.size + 1) (by simp) ?_; intro gn cap w4 hown hgrow hat hlt4; have HP4 := Lib.hid (R0.out.put (d := d) HQ.out HEE.out HDD.out hd10 hgw hown hgrow); have z0 : w4.cell? ⟨g, 0, none⟩ = some (.slice (some ⟨b, o, none⟩) ds.length c) := HP4.out.blk.cell 0; have k4 : w4.cell? ⟨b, o + (i + m), none⟩ = some (.int .u8 (d : Nat)) := (by obtain ⟨b', o', he', _, hk'⟩ := DRow.at_ (SliceV.chg H.out.row HP4.out.chg) (i + m) hil; cases he'; rw [← HDD.out] at hk'; exact hk'); clear hown hgrow hat))
          go_roundg (gk - 1)
          case measure => omega
          case rel => exact ⟨m + 1, n % q * 10 + d, O ++ [e], _, by omega, by rw [← HRR.out]; go_num, by go_num, rfl, HP4.out⟩
        · by_cases hn0 : n = 0
          · subst hn0
            have hm0 : 0 < m := by
              rcases R.head with ⟨h0, h1⟩ | ⟨h0, _⟩
              · omega
              · exact h0
            have f0 := R.blk.frozen 0
            have hdec : DecAt (wr.setCell ⟨g, 0, none⟩ (.slice A6 m c6)) g (.slice A6 m c6) O (dp - ((i : Nat) - 1)) := by
              have hc2 := (Chg.refl (fun b => b ≠ g) wr).setCell ⟨g, 0, none⟩ (.slice A6 m c6) (fun _ h => h rfl)
              exact ⟨R.blk.set 0 _, SliceV.chg (drow_own R.row R.len.symm hgw) hc2⟩
            have HDEC := Lib.hid hdec
            have hmb : m ≤ ds.length + k + 2 := by omega
            have hOl : O.length ≤ 1000 := by rw [R.len]; omega
            clear R hdec hn
            go_wp2_with (go_at_call 150; go_must (refine (trim_any _ _ _ _ _ hOl HDEC.out).mono ?_; rintro e w5 ⟨v5, j, rfl, hj, hz, hl', hd5, hc5⟩; have HJ := Lib.hid hj; have HZ := Lib.hid hz; have HLL := Lib.hid hl'; have HD5 := Lib.hid hd5; have HC5 := Lib.hid hc5; clear hj hz hl' hd5 hc5))
            go_end0
            have hR := R0.out
            have hOlen := hR.len
            have hh : O.head? ≠ some 0 := hR.head.elim (fun h => absurd h.1 (by omega)) And.right
            have hne : O ≠ [] := fun e => by rw [e] at hOlen; simp at hOlen; omega
            obtain ⟨h0, hcan, hsc⟩ := trimmed hR.lt hh hne HJ.out HZ.out HLL.out
            have hd5 := HD5.out
            rw [if_neg (by omega)] at hd5
            have hsum := hR.sum
            rw [Nat.add_zero, HQ.out] at hsum
            refine ⟨rfl, v5, _, _, hd5, hcan, by have := HJ.out; simp; omega, by omega, by omega, fun s hs => ?_, (hR.chg.setCell _ _ fun _ h => h rfl).trans HC5.out⟩
            rw [hsc s _ (by omega)]
            exact half_sc hsum (by omega) (by omega) (by omega)
          · have hnp : 0 < n := by omega
            have hnt : decide (0 < n) = true := by simp; omega
            have hmm : i + m < ds.length + k + 1 := by
              rcases Nat.lt_or_ge (i + m) (ds.length + k + 1) with h | h
              · exact h
              · have h1 := R.sum
                have h2 := R.left
                rw [HQ.out] at h1 h2
                exact absurd (half_end h1 h2 h) hn0
            have hdz : 0 = ds.getD (i + m) 0 := by simp [List.getD_eq_getElem?_getD, List.getElem?_eq_none (by omega : ds.length ≤ i + m)]
            have HDZ := Lib.hid hdz
            have hand := and_mask HQ.out hk2 (show n < 18446744073709551616 by omega)
            obtain ⟨r, hr⟩ : ∃ r, r = n % q := ⟨_, rfl⟩
            rw [← hr] at hand
            have hrq : r < q := by rw [hr]; exact Nat.mod_lt _ hq1
            have HRR := Lib.hid hr
            clear hr
            obtain ⟨e, hee⟩ : ∃ e, e = n / q := ⟨_, rfl⟩
            have hei : ((n : Nat) : Int) / ((q : Nat) : Int) = ((e : Nat) : Int) := by rw [hee]; simp
            have he10 : e < 10 := by rw [hee]; exact (Nat.div_lt_iff_lt_mul hq1).2 hn
            have HEE := Lib.hid hee
            clear hdz hee R hn0
            go_wp2_with (at_builtin; go_must (refine wpList_append_lies _ rfl _ _ _ rfl w.heap.size 5 iv _ 1 1 Tryz.underlying75 HI.out HZ0.out HZ1.out HZ2.out rfl (by decide) (.slice A6 m c6) m (dcells O) rfl (own_old R0.out.row ((Old.refl _).alloc _)) ⟨wr.heap.size, 0, none⟩ 1 1 [.int .u8 (e : Nat)] rfl rfl (news_blk (cs := #[.int .u8 (e : Nat)]) (Blk.new wr _ _)) (one_one rfl) (by decide) (by unfold maxLen; omega) (by omega) (by have := R0.out.chg.size; simp; omega) (wr.heap.size + 1) (by simp) ?_; intro gn cap w4 hown hgrow hat hlt4; have HP4 := Lib.hid (R0.out.put (d := 0) HQ.out HEE.out HDZ.out (by decide) hgw hown hgrow); have z0 : w4.cell? ⟨g, 0, none⟩ = some (.slice A ds.length c) := HP4.out.blk.cell 0; clear hown hgrow hat))
            go_roundg (gk - 1)
            case measure => omega
            case rel => exact ⟨m + 1, n % q * 10 + 0, O ++ [e], _, by omega, by rw [← HRR.out]; go_num, by go_num, rfl, HP4.out⟩
end Go.Proofs.YthggnkmlnjlggaaGreatDoor
