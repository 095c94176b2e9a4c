/-
  What looks at a value: all of it.
  Conditions: none.
-/
import Derived.Test.YthggnkmlnjlggaaGreatDoorFit
import Derived.Deep.Cut
import Derived.Deep.CutRange
import Derived.Deep.DeepCutAuto
import Derived.Deep.Light
import Derived.Deep.RegionHeld3
namespace Go.Proofs.YthggnkmlnjlggaaGreatDoor
open Go.RowKit

/-- No text and no list of a value is longer than memory can hold. -/
inductive Sized : V → Prop
  | mk (k h : Int) (t : ByteArray) (l : List V) (ks : List ByteArray) (vs : List V) (ht : t.size ≤ 140737488355328) (hl : l.length ≤ 9223372036854775807) (hk : ks.length ≤ 9223372036854775807) (hv : vs.length ≤ 9223372036854775807)
    (hks : ∀ s ∈ ks, s.size ≤ 140737488355328) (gl : ∀ x ∈ l, Sized x) (gv : ∀ x ∈ vs, Sized x) : Sized (.mk k h t l ks vs)

/-- No list of a value is long, at any depth. -/
inductive Small : V → Prop
  | mk (k h : Int) (t : ByteArray) (l : List V) (ks : List ByteArray) (vs : List V) (ht : t.size ≤ 2000) (hkt : ∀ s ∈ ks, s.size ≤ 2000) (hl : l.length ≤ 400) (hk : ks.length ≤ 400) (hv : vs.length ≤ 400) (gl : ∀ x ∈ l, Small x) (gv : ∀ x ∈ vs, Small x) : Small (.mk k h t l ks vs)
/-- Right, and not great. -/
def Right (v : V) : Prop := Good v ∧ Small v

mutual
/-- The parts of a value: itself, and those of its values. -/
def nodes : V → Nat
  | .mk _ _ _ l _ vs => 1 + nodesL l + nodesL vs
def nodesL : List V → Nat
  | [] => 0
  | v :: r => nodes v + nodesL r
end
def nsum (l : List V) (i : Nat) : Nat := nodesL (l.take i)
theorem nodesL_append : ∀ a b : List V, nodesL (a ++ b) = nodesL a + nodesL b
  | [], b => by simp [nodesL]
  | v :: r, b => by
    rw [List.cons_append, nodesL, nodesL, nodesL_append r b]
    omega
theorem nsum_zero (l : List V) : nsum l 0 = 0 := by simp [nsum, nodesL]
theorem nsum_succ (l : List V) (i : Nat) (h : i < l.length) : nsum l (i + 1) = nsum l i + nodes (l[i]) := by
  unfold nsum
  rw [List.take_succ_eq_append_getElem h, nodesL_append]
  simp [nodesL]
theorem nsum_all (l : List V) : nsum l l.length = nodesL l := by
  unfold nsum
  rw [List.take_length]
theorem nodes_pos (v : V) : 1 ≤ nodes v := by
  cases v
  rw [nodes]
  omega
theorem nsum_ge (l : List V) : ∀ i, i ≤ l.length → i ≤ nsum l i
  | 0, _ => Nat.zero_le _
  | i + 1, h => by
    have h1 := nsum_ge l i (by omega)
    have h2 := nodes_pos (l[i])
    rw [nsum_succ l i h]
    omega
theorem nodes_mk (k h : Int) (t : ByteArray) (l : List V) (ks : List ByteArray) (vs : List V) : nodes (.mk k h t l ks vs) = 1 + nsum l l.length + nsum vs vs.length := by
  rw [nodes, nsum_all, nsum_all]
def Fitted (w : World) (g : Nat) (v : V) (p : Int) (bad : Bool) (e : Ending) (w' : World) : Prop :=
  e = .returned (.tuple #[]) ∧ ∃ p' b' bad', Lk w' g p' b' bad' ∧ But g w w' ∧ 0 ≤ p' ∧ p' ≤ 401 ∧ (bad' = false → bad = false ∧ p + (nodes v : Nat) ≤ p' ∧ p' ≤ 400 ∧ Right v)
def Fits (v : V) : Prop := ∀ (w : World) (ok : Nat → Prop) (g : Nat) (p b : Int) (bad : Bool) (deep : Int) (c0 c1 c2 c3 c4 c5 : Value), KV w ok v [c0, c1, c2, c3, c4, c5] → (∀ k, ok k → k ≠ g) → Lk w g p b bad → Tabs w →
  Tryz.lays196_ren.g 3 ≠ g → Tryz.lays196_ren.g 4 ≠ g → 0 ≤ p → p ≤ 400 → 0 ≤ deep → deep ≤ 61 → Calls Tryz.prog 22 #[.pointer (some ⟨g, 0, none⟩), .agg #[c0, c1, c2, c3, c4, c5], .int .i64 deep] w (Fitted w g v p bad)

/-- What the first test asks. -/
def Kinded (k h : Int) (t : ByteArray) (nl nk nv : Nat) : Prop := 0 ≤ k ∧ k ≤ 6 ∧ (k = 3 ∨ h = 0) ∧ (k = 4 ∨ t = nilS) ∧ (k = 5 ∨ nl = 0) ∧ (k = 6 ∨ nk = 0) ∧ nk = nv

theorem toList_nil {t : ByteArray} (h : t.toList = []) : t = nilS := by
  rw [Lib.toList_data] at h
  obtain ⟨⟨d⟩⟩ := t
  simp only at h
  subst h
  rfl
theorem kinded {k h : Int} {t : ByteArray} {l : List V} {ks : List ByteArray} {vs : List V} (h0 : 0 ≤ k) (h6 : k ≤ 6) (a : k = 3 ∨ h = 0) (b : k = 4 ∨ t.toList = []) (c : k = 5 ∨ l = []) (d : k = 6 ∨ ks = []) (e : ks.length = vs.length) : Kinded k h t l.length ks.length vs.length :=
  ⟨h0, h6, a, b.imp id toList_nil, c.imp id fun e => by rw [e]; rfl, d.imp id fun e => by rw [e]; rfl, e⟩
/-- The value's own place, and the looker, behind some steps. -/
structure Seen (w : World) (g : Nat) (k h : Int) (t : ByteArray) (v1 v2 v3 : Value) (wx : World) (p b : Int) (bad : Bool) : Prop where
  lk : Lk wx g p b bad
  but : But g (w.alloc (.cells #[.int .i64 k, .int .i64 h, .string t, v1, v2, v3] 26)) wx
theorem Seen.box {w wx : World} {g : Nat} {k h p b : Int} {t : ByteArray} {v1 v2 v3 : Value} {bad : Bool} (hs : Seen w g k h t v1 v2 v3 wx p b bad) (hg : g < w.heap.size) :
    wx.cell? ⟨w.heap.size, 0, none⟩ = some (.int .i64 k) ∧ wx.cell? ⟨w.heap.size, 1, none⟩ = some (.int .i64 h) ∧ wx.cell? ⟨w.heap.size, 2, none⟩ = some (.string t) ∧ wx.cell? ⟨w.heap.size, 3, none⟩ = some v1 ∧ wx.cell? ⟨w.heap.size, 4, none⟩ = some v2 ∧ wx.cell? ⟨w.heap.size, 5, none⟩ = some v3 := by
  have hb : Blk wx w.heap.size #[.int .i64 k, .int .i64 h, .string t, v1, v2, v3] 26 := (Blk.new w _ _).chg hs.but (by omega)
  exact ⟨hb.cell 0, hb.cell 1, hb.cell 2, hb.cell 3, hb.cell 4, hb.cell 5⟩
theorem Seen.old {w wx w2 : World} {g : Nat} {k h p b p' b' : Int} {t : ByteArray} {v1 v2 v3 : Value} {bad bad' : Bool} (hs : Seen w g k h t v1 v2 v3 wx p b bad) (hl : Lk w2 g p' b' bad') (hb : But g wx w2) : Seen w g k h t v1 v2 v3 w2 p' b' bad' := ⟨hl, hs.but.trans hb⟩
theorem Seen.tabs {w wx : World} {g : Nat} {k h p b : Int} {t : ByteArray} {v1 v2 v3 : Value} {bad : Bool} (hs : Seen w g k h t v1 v2 v3 wx p b bad) (hT : Tabs w) (g3 : Tryz.lays196_ren.g 3 ≠ g) (g4 : Tryz.lays196_ren.g 4 ≠ g) : Tabs wx :=
  (hT.old ((Old.refl w).alloc _)).chg hs.but g3 g4
theorem Seen.slice {w wx : World} {ok : Nat → Prop} {g size n : Nat} {k h p b : Int} {t : ByteArray} {v1 v2 v3 v : Value} {bad : Bool} {C : Nat → List Value} (hs : Seen w g k h t v1 v2 v3 wx p b bad) (hok : ∀ k, ok k → k ≠ g) (hv : SliceV w ok v size n C) : SliceV wx ok v size n C :=
  (hv.old ((Old.refl w).alloc _)).chg (Chg.mono hs.but fun k _ ho => hok k ho)
theorem Seen.kvs {w wx : World} {ok : Nat → Prop} {g : Nat} {k h p b : Int} {t : ByteArray} {v1 v2 v3 v : Value} {bad : Bool} {l : List V} (hs : Seen w g k h t v1 v2 v3 wx p b bad) (hok : ∀ k, ok k → k ≠ g) (hv : KVs w ok l v) : KVs wx ok l v := by
  obtain ⟨C, hv, hr⟩ := hv
  exact ⟨C, hs.slice hok hv, fun i hi => ((hr i hi).old ((Old.refl w).alloc _)).chg (Chg.mono hs.but fun k _ ho => hok k ho)⟩
theorem tmod_half {h : Int} (ht : h.tmod 2 = 0) : h % 2 = 0 := by
  have := Int.dvd_of_tmod_eq_zero ht
  omega
/-- Where nothing was found bad. -/
def Ok_ (b : Bool) (P : Prop) : Prop := b = false → P
/-- The list so far. -/
def ListSeen (w : World) (g : Nat) (k h : Int) (t : ByteArray) (v1 v2 v3 : Value) (p : Int) (bad : Bool) (l : List V) (gk : Nat) (s6 : Value) (wr : World) : Prop :=
  ∃ i : Nat, ∃ (p' b' : Int) (bad' : Bool), i + gk = l.length ∧ s6 = .int .i64 i ∧ Seen w g k h t v1 v2 v3 wr p' b' bad' ∧ 0 ≤ p' ∧ p' ≤ 401 ∧ Ok_ bad' (bad = false ∧ p + (nsum l i : Nat) ≤ p' ∧ p' ≤ 400 ∧ ∀ j, j < i → Right (nth l j))
/-- What is known of key j and of its value. -/
def KeyOk (ks : List ByteArray) (vs : List V) (j : Nat) : Prop := Right (nth vs j) ∧ TextOk (kth ks j) ∧ (0 < j → keyLt (kth ks (j - 1)).data.toList (kth ks j).data.toList = true)
def KClaim (bad : Bool) (p p' : Int) (ks : List ByteArray) (vs : List V) (i : Nat) : Prop := bad = false ∧ p + (nsum vs i : Nat) ≤ p' ∧ p' ≤ 400 ∧ ∀ j, j < i → KeyOk ks vs j
theorem KClaim.bad {bad : Bool} {p p' : Int} {ks : List ByteArray} {vs : List V} {i : Nat} (h : KClaim bad p p' ks vs i) : bad = false := h.1
theorem KClaim.le {bad : Bool} {p p' : Int} {ks : List ByteArray} {vs : List V} {i : Nat} (h : KClaim bad p p' ks vs i) : p' ≤ 400 := h.2.2.1
/-- The keys so far. -/
def KeysSeen (w : World) (g : Nat) (k h : Int) (t : ByteArray) (v1 v2 v3 : Value) (p : Int) (bad : Bool) (ks : List ByteArray) (vs : List V) (gk : Nat) (s7 : Value) (wr : World) : Prop :=
  ∃ i : Nat, ∃ (p' b' : Int) (bad' : Bool), i + gk = ks.length ∧ s7 = .int .i64 i ∧ Seen w g k h t v1 v2 v3 wr p' b' bad' ∧ 0 ≤ p' ∧ p' ≤ 401 ∧ Ok_ bad' (KClaim bad p p' ks vs i)

theorem region_quiet_in {P : Program} {C : World → Prop} {id : Nat} {Q : Exit → Act → World → Prop} {a : Act} {w : World} {l : List Oper} (hm : P.follows .mixedOrders = true) (hB : Region.lexB .any l.toArray = true) (hC : C { w with drawn := w.drawn + 1 })
    (h : wpQuiet P l.toArray C (fun a' => ∀ w', C w' → Q .normal a' w') l a) : (Code.region id l.toArray true).wp P Q a w := wp_region_quiet hm hB hC (by simpa using h)
structure Stay (w3 : World) (g : Nat) (p b : Int) (bad : Bool) where
  val : World
  lk : Lk val g p b bad
  but : But g w3 val
theorem keyLt_trans : ∀ a b c : List UInt8, keyLt a b = true → keyLt b c = true → keyLt a c = true
  | [], [], [] => by simp [keyLt]
  | [], _ :: _, [] => by simp [keyLt]
  | [], [], _ :: _ => by simp [keyLt]
  | [], _ :: _, _ :: _ => by simp [keyLt]
  | _ :: _, [], _ => by simp [keyLt]
  | _ :: _, _ :: _, [] => by simp [keyLt]
  | a :: r, b :: s, c :: u => by
    simp only [keyLt, Bool.or_eq_true, decide_eq_true_eq, Bool.and_eq_true, beq_iff_eq]
    rintro (h | ⟨rfl, h⟩) (k | ⟨rfl, k⟩)
    · exact .inl (UInt8.lt_trans h k)
    · exact .inl h
    · exact .inl k
    · exact .inr ⟨rfl, keyLt_trans r s u h k⟩
theorem rising_of {ks : List ByteArray} (h : ∀ j, j < ks.length → 0 < j → keyLt (kth ks (j - 1)).data.toList (kth ks j).data.toList = true) : Rising ks := by
  have step : ∀ i d, i + d + 1 < ks.length → keyLt (kth ks i).data.toList (kth ks (i + d + 1)).data.toList = true := by
    intro i d
    induction d with
    | zero => exact fun hi => by simpa using h (i + 1) hi (by omega)
    | succ d ih => exact fun hi => keyLt_trans _ _ _ (ih (by omega)) (by simpa [Nat.add_assoc] using h (i + (d + 1) + 1) hi (by omega))
  refine List.pairwise_iff_getElem.2 fun i j hi hj hij => ?_
  have := step i (j - i - 1) (by omega)
  rw [show i + (j - i - 1) + 1 = j by omega] at this
  simpa [kth, hi, hj] using this
theorem good_of {k h : Int} {t : ByteArray} {l : List V} {ks : List ByteArray} {vs : List V} (hk : Kinded k h t l.length ks.length vs.length) (hh : HalfOk h) (ht : t.size ≤ 140737488355328) (hv : TextOk t) (hl : l.length ≤ 400) (hks : ks.length ≤ 400)
    (hsz : ∀ s ∈ ks, s.size ≤ 140737488355328) (gl : ∀ j, j < l.length → Right (nth l j)) (gk : ∀ j, j < ks.length → KeyOk ks vs j) : Right (.mk k h t l ks vs) := by
  obtain ⟨k0, k6, h3, h4, h5, h6, hn⟩ := hk
  have gl' : ∀ x ∈ l, Right x := fun x hx => by
    obtain ⟨j, hj, rfl⟩ := List.getElem_of_mem hx
    rw [nth_eq]
    exact gl j hj
  have gv' : ∀ x ∈ vs, Right x := fun x hx => by
    obtain ⟨j, hj, rfl⟩ := List.getElem_of_mem hx
    rw [nth_eq]
    exact (gk j (by omega)).1
  have hkt : ∀ s ∈ ks, TextOk s := fun s hs => by
    obtain ⟨j, hj, rfl⟩ := List.getElem_of_mem hs
    have := (gk j hj).2.1
    simpa [kth, hj] using this
  refine ⟨?_, .mk k h t l ks vs hv.2 (fun s hs => (hkt s hs).2) hl hks (by omega) (fun x hx => (gl' x hx).2) (fun x hx => (gv' x hx).2)⟩
  exact .mk k h t l ks vs k0 k6 h3 h4 (h5.imp id List.eq_nil_of_length_eq_zero) (h6.imp id List.eq_nil_of_length_eq_zero) hn hh ⟨by omega, hv.1⟩ (by omega) (by omega) (rising_of fun j hj h0 => (gk j hj).2.2 h0) (fun s hs => ⟨by have := hsz s hs; omega, (hkt s hs).1⟩) (fun x hx => (gl' x hx).1) (fun x hx => (gv' x hx).1)

set_option maxHeartbeats 4000000 in
set_option maxRecDepth 100000 in
theorem value_any {v : V} (hz : Sized v) : Fits v := by
  induction hz with
  | mk k h t l ks vs ht hl hk hv hks gl gv ihl ihv =>
    intro w ok g p b bad deep c0 c1 c2 c3 c4 c5 hkv hok hlk hT g3 g4 hp hp4 hd hd6
    obtain ⟨A1, n1, m1, A2, n2, m2, A3, n3, m3, rfl, rfl, rfl, rfl, rfl, rfl⟩ := shape hkv
    simp only [V.kind, V.half, V.text] at hkv ⊢
    obtain ⟨v1, v2, v3, C1, C3, hcs, s1, r1, s2, s3, r3⟩ := hkv.form
    simp only [List.cons.injEq, and_true, true_and] at hcs
    obtain ⟨rfl, rfl, rfl⟩ := hcs
    obtain ⟨_, _, he1, hn1⟩ := s1.len
    cases he1
    obtain ⟨_, _, he2, hn2⟩ := s2.len
    cases he2
    obtain ⟨_, _, he3, hn3⟩ := s3.len
    cases he3
    have IL := Lib.hid ihl
    have IV := Lib.hid ihv
    have HT := Lib.hid hT
    have HLK := Lib.hid hlk
    have S1 := Lib.hid (show KVs w ok l (.slice A1 l.length m1) from ⟨C1, s1, r1⟩)
    have S2 := Lib.hid s2
    have S3 := Lib.hid (show KVs w ok vs (.slice A3 vs.length m3) from ⟨C3, s3, r3⟩)
    have HOK := Lib.hid hok
    have HS := Lib.hid (And.intro ht hks)
    clear ihl ihv hT s1 s2 s3 r1 r3 hkv gl gv hok ht hks hlk
    go_enter Tryz.func22, Tryz.ntmps22
    have hgw : g < w.heap.size := HLK.out.cells.2.2.2.2.2.2
    go_upto_region 2 with (go_at_call 35; refine (part_any _ _ _ _ _ _ (HLK.out.alloc _) ⟨hp, hp4⟩).mono ?_; rintro e w2 ⟨bad', rfl, hl2, hb2, hq⟩; have HN := Lib.hid (Seen.mk (w := w) (k := k) (h := h) (t := t) (v1 := .slice A1 l.length m1) (v2 := .slice A2 ks.length m2) (v3 := .slice A3 vs.length m3) hl2 hb2); have HQ := Lib.hid hq; clear hl2 hb2 hq; cases bad')
    all_goals first
      | (go_end0; exact ⟨rfl, _, _, true, HN.out.lk, (But.refl g w).trans ((Chg.refl _ _).alloc _ |>.trans HN.out.but), by omega, by omega, fun h => by cases h⟩)
      | skip
    all_goals
      obtain ⟨x0, x1, x2, x3, x4, x5⟩ := HN.out.box hgw
      go_cut [] from 12 to 72 (fun wx => ∃ bad', Seen w g k h t (.slice A1 l.length m1) (.slice A2 ks.length m2) (.slice A3 vs.length m3) wx (p + 1) b bad' ∧ (bad' = false → Kinded k h t l.length ks.length vs.length))
    case first =>
      go_wp2_with (go_at_call 36; refine (want_any _ _ _ _ _ _ _ rfl HN.out.lk).mono ?_; rintro e w3 ⟨rfl, hl3, hb3⟩)
      all_goals
        subst_vars
        go_meet
        go_light
        refine ⟨_, HN.out.old hl3 hb3, fun hx => ?_⟩
        first
          | (refine kinded (by first | assumption | omega) (by first | assumption | omega) (by first | exact .inl rfl | exact .inr rfl) (by first | exact .inl rfl | exact .inr (by assumption)) (by first | exact .inl rfl | exact .inr rfl) (by first | exact .inl rfl | exact .inr rfl) ?_
             simp only [Bool.false_or, Bool.not_eq_false', beq_iff_eq] at hx
             simp only [List.length_nil] at *
             omega)
          | exact absurd hx (by simp)
    case rest =>
      obtain ⟨bad1, hn1, hkd⟩ := hcut
      have HK := Lib.hid hkd
      have HN1 := Lib.hid hn1
      clear hkd HN x0 x1 x2 x3 x4 x5
      obtain ⟨x0, x1, x2, x3, x4, x5⟩ := hn1.box hgw
      clear hn1
      go_upto_region 3 with fail
      go_cut [] from 73 to 98 (fun wx => ∃ bad', Seen w g k h t (.slice A1 l.length m1) (.slice A2 ks.length m2) (.slice A3 vs.length m3) wx (p + 1) b bad' ∧ (bad' = false → bad1 = false ∧ HalfOk h))
      case first =>
        go_wp2_with (go_at_call 36; refine (want_any _ _ _ _ _ _ _ rfl HN1.out.lk).mono ?_; rintro e w3 ⟨rfl, hl3, hb3⟩)
        all_goals
          subst_vars
          go_meet
          go_light
          refine ⟨_, HN1.out.old hl3 hb3, fun hx => ?_⟩
          first
            | (simp only [Bool.or_eq_false_iff, Bool.not_eq_false', Bool.or_eq_true, beq_iff_eq, decide_eq_true_eq] at hx
               obtain ⟨hx1, hx2⟩ := hx
               refine ⟨hx1, by assumption, by assumption, ?_⟩
               first
                 | exact .inl (tmod_half (by assumption))
                 | (rcases hx2 with hx2 | hx2
                    · exact .inl (tmod_half hx2)
                    · exact .inr ⟨by assumption, hx2⟩)
                 | exact .inl (tmod_half hx2))
            | exact absurd hx (by simp)
      case rest =>
      obtain ⟨bad2, hs2, hh⟩ := hcut
      have HH := Lib.hid hh
      have HN2 := Lib.hid hs2
      clear hh HN1 x0 x1 x2 x3 x4 x5
      obtain ⟨x0, x1, x2, x3, x4, x5⟩ := hs2.box hgw
      clear hs2
      go_wp2_with (go_at_call 37; refine (str_any _ _ _ _ _ _ HN2.out.lk (HN2.out.tabs HT.out g3 g4) g3 g4 HS.out.1).mono ?_; rintro e w3 ⟨rfl, b3, bad3, hl3, hb3, hv3⟩; have HN3 := Lib.hid (HN2.out.old hl3 hb3); have HF := Lib.hid (show bad3 = false → bad = false ∧ p + 1 ≤ 400 ∧ deep ≤ 60 ∧ Kinded k h t l.length ks.length vs.length ∧ HalfOk h ∧ TextOk t from fun hx => ⟨(HQ.out trivial).1, (HQ.out trivial).2.1, (HQ.out trivial).2.2.2, HK.out (HH.out (hv3 hx).1).1, (HH.out (hv3 hx).1).2, (hv3 hx).2⟩); clear hl3 hb3 hv3)
      clear x0 x1 x2 x3 x4 x5 HN2 HK HH HQ
      go_loopg [6] l.length (ListSeen w g k h t (.slice A1 l.length m1) (.slice A2 ks.length m2) (.slice A3 vs.length m3) (p + 1) bad3 l)
      case atStart => exact ⟨0, _, _, _, by simp, rfl, HN3.out, by omega, by omega, fun hx => ⟨hx, by rw [nsum_zero]; simp, (HF.out hx).2.1, fun j hj => absurd hj (by omega)⟩⟩
      case round =>
        obtain ⟨i, p', b', bad', hi, rfl, R, q0, q1, hq⟩ := hrel
        have R0 := Lib.hid R
        have HI := Lib.hid hi
        have Q := Lib.hid hq
        clear hq hi
        obtain ⟨x0, x1, x2, x3, x4, x5⟩ := R.box hgw
        obtain ⟨y0, y1, y2, z0, z1, z2, y3⟩ := R.lk.cells
        clear R y0 y1 z0 z1 z2 x0 x1 x2
        by_cases hlt : i < l.length
        · cases bad'
          · have hd60 : deep ≤ 60 := (HF.out (Q.out rfl).1).2.2.1
            have hp400 : p' ≤ 400 := (Q.out rfl).2.2.1
            obtain ⟨b1, o1, c0, c1, c2, c3, c4, c5, rfl, hb1, hkv, e0, e1, e2, e3, e4, e5⟩ := six (R0.out.kvs HOK.out S1.out) i hlt
            obtain ⟨B1, q1', p1', B2, q2', p2', B3, q3', p3', rfl, rfl, rfl, rfl, rfl, rfl⟩ := shape hkv
            generalize hkd : (nth l i).kind = kd at *
            generalize hhf : (nth l i).half = hf at *
            generalize htx : (nth l i).text = tx at *
            clear hkd hhf htx
            have KV0 := Lib.hid hkv
            clear hkv
            go_wp2_with (go_at_call 22; refine (IL.out _ (List.getElem_mem hlt) _ _ _ _ _ _ _ _ _ _ _ _ _ (by rw [nth_eq]; exact KV0.out) HOK.out R0.out.lk (R0.out.tabs HT.out g3 g4) g3 g4 q0 hp400 (by omega) (by omega)).mono ?_; rintro e w4 ⟨rfl, p4, b4, bad4, hl4, hb4, r0, r1, hg4⟩; have HR4 := Lib.hid (R0.out.old hl4 hb4); have HG4 := Lib.hid (show Ok_ bad4 _ from hg4); clear hl4 hb4 hg4)
            go_roundg (gk - 1)
            case measure => have := HI.out; omega
            case rel =>
              refine ⟨i + 1, p4, b4, bad4, by have := HI.out; omega, by go_num, HR4.out, r0, r1, fun hx => ?_⟩
              obtain ⟨_, hx2, hx3, hx4⟩ := HG4.out hx
              obtain ⟨hy1, hy2, hy3, hy4⟩ := Q.out rfl
              have hns := nsum_succ l i hlt
              refine ⟨hy1, by omega, hx3, fun j hj => ?_⟩
              by_cases hji : j = i
              · subst hji
                rw [nth_eq] at hx4
                exact hx4
              · exact hy4 j (by omega)
          · have X := Lib.hid (show Ok_ true (bad3 = false ∧ p + 1 + (nsum l l.length : Nat) ≤ p' ∧ p' ≤ 400 ∧ ∀ j, j < l.length → Right (nth l j)) from fun h => by cases h)
            clear Q
            go_wp2_with fail
            go_loopg [7] ks.length (KeysSeen w g k h t (.slice A1 l.length m1) (.slice A2 ks.length m2) (.slice A3 vs.length m3) (p + 1 + (nsum l l.length : Nat)) true ks vs)
            case atStart => exact ⟨0, _, _, _, by simp, rfl, R0.out, q0, q1, fun hx => ⟨hx, by have := (X.out hx).2.1; rw [nsum_zero]; simp; omega, (X.out hx).2.2.1, fun j hj => absurd hj (by omega)⟩⟩
            case round =>
              clear R0 x3 x4 x5 y2 y3 HI hlt
              clear q0 q1
              obtain ⟨i, p', b', bad', hi, rfl, R, q0, q1, hq⟩ := hrel
              have R0 := Lib.hid R
              have HI := Lib.hid hi
              have Q := Lib.hid hq
              clear hq hi
              obtain ⟨x0, x1, x2, x3, x4, x5⟩ := R.box hgw
              obtain ⟨y0, y1, y2, z0, z1, z2, y3⟩ := R.lk.cells
              clear R y0 y1 z0 z1 z2 x0 x1 x2
              by_cases hlt : i < ks.length
              · cases bad'
                · have hd60 : deep ≤ 60 := (HF.out (X.out (Q.out rfl).bad).1).2.2.1
                  have hp400 : p' ≤ 400 := (Q.out rfl).le
                  have hlt3 : i < vs.length := by
                    have := (HF.out (X.out (Q.out rfl).bad).1).2.2.2.1.2.2.2.2.2.2
                    omega
                  obtain ⟨b2, o2, rfl, hb2, k0⟩ := keyAt (R0.out.slice HOK.out S2.out) i hlt
                  obtain ⟨s, hs⟩ : ∃ s, s = kth ks i := ⟨_, rfl⟩
                  rw [← hs] at k0
                  have hsz : s.size ≤ 140737488355328 := by rw [hs]; exact HS.out.2 _ (kth_mem _ _ hlt)
                  have HSZ := Lib.hid hsz
                  have HSK := Lib.hid hs
                  clear hs hsz
                  by_cases h0 : i = 0
                  · subst h0
                    simp only [Nat.add_zero] at k0
                    go_upto_region 13 with (go_at_call 37; refine (str_any _ _ _ _ _ _ R0.out.lk (R0.out.tabs HT.out g3 g4) g3 g4 HSZ.out).mono ?_; rintro e w3 ⟨rfl, b3', bad3', hl3, hb3, hv3⟩; have HR3 := Lib.hid (R0.out.old hl3 hb3); have HV3 := Lib.hid (show Ok_ bad3' _ from hv3); obtain ⟨xx0, xx1, xx2, xx3, xx4, xx5⟩ := HR3.out.box hgw; clear xx0 xx1 xx2 xx3 xx5; obtain ⟨b2', o2', hA2, _, kk0⟩ := keyAt (HR3.out.slice HOK.out S2.out) 0 hlt; cases hA2; rw [← HSK.out] at kk0; simp only [Nat.add_zero] at kk0; clear hl3 hb3 hv3)
                    go_cut [] from 126 to 173 (fun wx => ∃ bad5, Seen w g k h t (.slice A1 l.length m1) (.slice (some ⟨b2, o2, none⟩) ks.length m2) (.slice A3 vs.length m3) wx p' b3' bad5 ∧ Ok_ bad5 (bad3' = false))
                    case first =>
                      haveI : Nonempty (Stay w3 g p' b3' bad3') := ⟨⟨w3, HR3.out.lk, But.refl _ _⟩⟩
                      refine region_quiet_in (C := fun w' => ∃ n : Stay w3 g p' b3' bad3', w' = n.val) (by kernel_rfl) (by kernel_rfl) ⟨⟨_, Lk.drew HR3.out.lk, (Chg.refl _ _).drew⟩, rfl⟩ ?_
                      repeat (go_big_quiet_step ((go_at_call 36; refine (want_any _ _ _ _ _ true bad3' (by simp) (Stay.lk _)).mono ?_; rintro e w5 ⟨rfl, hl5, hb5⟩; exact ⟨rfl, ⟨⟨w5, hl5, (Stay.but _).trans hb5⟩, rfl⟩⟩)))
                      refine wpQuiet_nil ?_
                      intro w' hw'
                      obtain ⟨⟨w5, hl5, hb5⟩, rfl⟩ := hw'
                      go_wp2_with fail
                      go_meet
                      exact ⟨_, HR3.out.old hl5 hb5, fun hx => hx⟩
                    case rest =>
                      obtain ⟨bad5, hs5, hc5⟩ := hcut
                      have HC5 := Lib.hid hc5
                      have HR5 := Lib.hid hs5
                      clear hc5
                      obtain ⟨xz0, xz1, xz2, xz3, xz4, xz5⟩ := hs5.box hgw
                      clear hs5 xz0 xz1 xz2 xz3 xz4
                      obtain ⟨b1, o1, c0, c1, c2, c3, c4, c5, rfl, hb1, hkv, e0, e1, e2, e3, e4, e5⟩ := six (HR5.out.kvs HOK.out S3.out) 0 hlt3
                      obtain ⟨B1, q1', p1', B2, q2', p2', B3, q3', p3', rfl, rfl, rfl, rfl, rfl, rfl⟩ := shape hkv
                      generalize hkd : (nth vs 0).kind = kd at *
                      generalize hhf : (nth vs 0).half = hf at *
                      generalize htx : (nth vs 0).text = tx at *
                      clear hkd hhf htx
                      have KV0 := Lib.hid hkv
                      clear hkv
                      simp only [Nat.zero_mul, Nat.add_zero] at e0 e1 e2 e3 e4 e5
                      go_wp2_with (go_at_call 22; refine (IV.out _ (List.getElem_mem hlt3) _ _ _ _ _ _ _ _ _ _ _ _ _ (by rw [nth_eq]; exact KV0.out) HOK.out HR5.out.lk (HR5.out.tabs HT.out g3 g4) g3 g4 q0 hp400 (by omega) (by omega)).mono ?_; rintro e w4 ⟨rfl, p4, b4, bad4, hl4, hb4, r0, r1, hg4⟩; have HR4 := Lib.hid (HR5.out.old hl4 hb4); have HG4 := Lib.hid (show Ok_ bad4 _ from hg4); clear hl4 hb4 hg4)
                      go_roundg (gk - 1)
                      case measure => have := HI.out; omega
                      case rel =>
                        refine ⟨0 + 1, p4, b4, bad4, by have := HI.out; omega, by go_num, HR4.out, r0, r1, fun hx => ?_⟩
                        obtain ⟨hw1, hx2, hx3, hx4⟩ := HG4.out hx
                        have hw := HC5.out hw1
                        obtain ⟨hy1, hy2, hy3, hy4⟩ := Q.out rfl
                        have hns := nsum_succ vs 0 hlt3
                        refine ⟨hy1, by omega, hx3, fun j hj => ?_⟩
                        obtain rfl : j = 0 := by omega
                        rw [nth_eq] at hx4
                        refine ⟨hx4, ?_, fun h => absurd h (by omega)⟩
                        rw [← HSK.out]
                        exact (HV3.out hw).2
                  · obtain ⟨q, rfl⟩ : ∃ q, i = q + 1 := ⟨i - 1, by omega⟩
                    have hqn : q < ks.length := by omega
                    have hqz : (((q : Int) + 1) == 0) = false := by rw [beq_eq_false_iff_ne]; omega
                    have hb0 : (0 : Int) ≤ (q : Int) := by omega
                    have hb1 : (q : Int) < (ks.length : Int) := by omega
                    have hb2 : (q : Int) + 1 < (ks.length : Int) := by omega
                    have hb3 : (0 : Int) ≤ (q : Int) + 1 := by omega
                    have hwq : IntKind.i64.wrap ((q : Int) + 1 - 1) = (q : Int) := by rw [Int.add_sub_cancel]; exact IntWalk.i64_in (q : Int) ⟨by omega, by omega⟩
                    have hwq2 : IntKind.i64.wrap (q : Int) = (q : Int) := IntWalk.i64_in (q : Int) ⟨by omega, by omega⟩
                    obtain ⟨s0, hs0⟩ : ∃ s, s = kth ks q := ⟨_, rfl⟩
                    obtain ⟨lt, hlt0⟩ : ∃ lt, Op.bytesLess s0.toList s.toList = lt := ⟨_, rfl⟩
                    have HLT := Lib.hid (show lt = keyLt s0.data.toList s.data.toList by rw [← hlt0, less_key])
                    have HS0 := Lib.hid hs0
                    clear hs0
                    go_upto_region 13 with (go_at_call 37; refine (str_any _ _ _ _ _ _ R0.out.lk (R0.out.tabs HT.out g3 g4) g3 g4 HSZ.out).mono ?_; rintro e w3 ⟨rfl, b3', bad3', hl3, hb3, hv3⟩; have HR3 := Lib.hid (R0.out.old hl3 hb3); have HV3 := Lib.hid (show Ok_ bad3' _ from hv3); obtain ⟨xx0, xx1, xx2, xx3, xx4, xx5⟩ := HR3.out.box hgw; clear xx0 xx1 xx2 xx3 xx5; obtain ⟨b2', o2', hA2, _, kk0⟩ := keyAt (HR3.out.slice HOK.out S2.out) (q + 1) hlt; cases hA2; rw [← HSK.out] at kk0; obtain ⟨b2', o2', hA2, _, kkp⟩ := keyAt (HR3.out.slice HOK.out S2.out) q hqn; cases hA2; rw [← HS0.out] at kkp; clear hl3 hb3 hv3)
                    go_cut [] from 126 to 173 (fun wx => ∃ bad5, Seen w g k h t (.slice A1 l.length m1) (.slice (some ⟨b2, o2, none⟩) ks.length m2) (.slice A3 vs.length m3) wx p' b3' bad5 ∧ Ok_ bad5 (bad3' = false ∧ lt = true))
                    case first =>
                      go_region_held3 (fun w' => w'.cell? ⟨w.heap.size, 4, none⟩ = some (.slice (some ⟨b2, o2, none⟩) ks.length m2) ∧ w'.cell? ⟨b2, o2 + q, none⟩ = some (.string s0) ∧ w'.cell? ⟨b2, o2 + (q + 1), none⟩ = some (.string s)) (go_keep) ((go_at_call 36; refine (want_any _ _ _ _ _ _ _ rfl (by first | exact HR3.out.lk | exact Lk.drew HR3.out.lk)).mono ?_; rintro e w5 ⟨rfl, hl5, hb5⟩; have HB5 : But g w3 w5 := (by first | exact hb5 | exact But.trans ((Chg.refl _ _).drew) hb5); obtain ⟨_, _, _, _, zz4, _⟩ := (HR3.out.old hl5 HB5).box hgw; obtain ⟨b2', o2', hA2, _, zz0⟩ := keyAt ((HR3.out.old hl5 HB5).slice HOK.out S2.out) (q + 1) hlt; cases hA2; rw [← HSK.out] at zz0; obtain ⟨b2', o2', hA2, _, zzp⟩ := keyAt ((HR3.out.old hl5 HB5).slice HOK.out S2.out) q hqn; cases hA2; rw [← HS0.out] at zzp))
                      all_goals (go_wp2_with fail; go_meet; first | exact ⟨_, HR3.out.old hl5 hb5, fun hx => by simpa using hx⟩ | exact ⟨_, HR3.out.old hl5 (But.trans ((Chg.refl _ _).drew) hb5), fun hx => by simpa using hx⟩)
                    case rest =>
                      obtain ⟨bad5, hs5, hc5⟩ := hcut
                      have HC5 := Lib.hid hc5
                      have HR5 := Lib.hid hs5
                      clear hc5
                      obtain ⟨xz0, xz1, xz2, xz3, xz4, xz5⟩ := hs5.box hgw
                      clear hs5 xz0 xz1 xz2 xz3 xz4
                      obtain ⟨b1, o1, c0, c1, c2, c3, c4, c5, rfl, hb1, hkv, e0, e1, e2, e3, e4, e5⟩ := six (HR5.out.kvs HOK.out S3.out) (q + 1) hlt3
                      obtain ⟨B1, q1', p1', B2, q2', p2', B3, q3', p3', rfl, rfl, rfl, rfl, rfl, rfl⟩ := shape hkv
                      generalize hkd : (nth vs (q + 1)).kind = kd at *
                      generalize hhf : (nth vs (q + 1)).half = hf at *
                      generalize htx : (nth vs (q + 1)).text = tx at *
                      clear hkd hhf htx
                      have KV0 := Lib.hid hkv
                      clear hkv
                      go_wp2_with (go_at_call 22; refine (IV.out _ (List.getElem_mem hlt3) _ _ _ _ _ _ _ _ _ _ _ _ _ (by rw [nth_eq]; exact KV0.out) HOK.out HR5.out.lk (HR5.out.tabs HT.out g3 g4) g3 g4 q0 hp400 (by omega) (by omega)).mono ?_; rintro e w4 ⟨rfl, p4, b4, bad4, hl4, hb4, r0, r1, hg4⟩; have HR4 := Lib.hid (HR5.out.old hl4 hb4); have HG4 := Lib.hid (show Ok_ bad4 _ from hg4); clear hl4 hb4 hg4)
                      go_roundg (gk - 1)
                      case measure => have := HI.out; omega
                      case rel =>
                        refine ⟨q + 1 + 1, p4, b4, bad4, by have := HI.out; omega, by go_num, HR4.out, r0, r1, fun hx => ?_⟩
                        obtain ⟨hw1, hx2, hx3, hx4⟩ := HG4.out hx
                        have hw := HC5.out hw1
                        obtain ⟨hy1, hy2, hy3, hy4⟩ := Q.out rfl
                        have hns := nsum_succ vs (q + 1) hlt3
                        refine ⟨hy1, by omega, hx3, fun j hj => ?_⟩
                        by_cases hji : j = q + 1
                        · subst hji
                          rw [nth_eq] at hx4
                          refine ⟨hx4, ?_, fun _ => ?_⟩
                          · rw [← HSK.out]
                            exact (HV3.out hw.1).2
                          · rw [Nat.add_sub_cancel, ← HSK.out, ← HS0.out, ← HLT.out]
                            exact hw.2
                        · exact hy4 j (by omega)
                · go_wp2
                  go_end0
                  refine ⟨rfl, p', b', _, R0.out.lk, (((Chg.refl _ w).alloc _).trans R0.out.but), q0, q1, fun hx => ?_⟩
                  cases hx
              · cases bad'
                · go_wp2
                  go_end0
                  refine ⟨rfl, p', b', _, R0.out.lk, (((Chg.refl _ w).alloc _).trans R0.out.but), q0, q1, fun hx => ?_⟩
                  obtain ⟨hy1, hy2, hy3, hy4⟩ := Q.out rfl
                  obtain ⟨hz1, hz2, hz3, hz4⟩ := X.out hy1
                  obtain ⟨f1, f2, f3, f4, f5, f6⟩ := HF.out hz1
                  have hiq := HI.out
                  have hvi : vs.length = i := by
                    have := f4.2.2.2.2.2.2
                    omega
                  have hnm := nodes_mk k h t l ks vs
                  rw [hvi] at hnm
                  have hg1 := nsum_ge l l.length (Nat.le_refl _)
                  have hg2 := nsum_ge vs i (by omega)
                  exact ⟨f1, by omega, hy3, good_of f4 f5 HS.out.1 f6 (by omega) (by omega) HS.out.2 (fun j hj => hz4 j hj) (fun j hj => hy4 j (by omega))⟩
                · go_wp2
                  go_end0
                  refine ⟨rfl, p', b', _, R0.out.lk, (((Chg.refl _ w).alloc _).trans R0.out.but), q0, q1, fun hx => ?_⟩
                  cases hx
        · cases bad'
          · have hil : i = l.length := by have := HI.out; omega
            have X := Lib.hid (show Ok_ false (bad3 = false ∧ p + 1 + (nsum l l.length : Nat) ≤ p' ∧ p' ≤ 400 ∧ ∀ j, j < l.length → Right (nth l j)) from fun h => by obtain ⟨hy1, hy2, hy3, hy4⟩ := Q.out rfl; exact ⟨hy1, by rw [← hil]; exact hy2, hy3, fun j hj => hy4 j (by omega)⟩)
            clear Q
            clear hil
            go_wp2_with fail
            go_loopg [7] ks.length (KeysSeen w g k h t (.slice A1 l.length m1) (.slice A2 ks.length m2) (.slice A3 vs.length m3) (p + 1 + (nsum l l.length : Nat)) false ks vs)
            case atStart => exact ⟨0, _, _, _, by simp, rfl, R0.out, q0, q1, fun hx => ⟨hx, by have := (X.out hx).2.1; rw [nsum_zero]; simp; omega, (X.out hx).2.2.1, fun j hj => absurd hj (by omega)⟩⟩
            case round =>
              clear R0 x3 x4 x5 y2 y3 HI hlt
              clear q0 q1
              obtain ⟨i, p', b', bad', hi, rfl, R, q0, q1, hq⟩ := hrel
              have R0 := Lib.hid R
              have HI := Lib.hid hi
              have Q := Lib.hid hq
              clear hq hi
              obtain ⟨x0, x1, x2, x3, x4, x5⟩ := R.box hgw
              obtain ⟨y0, y1, y2, z0, z1, z2, y3⟩ := R.lk.cells
              clear R y0 y1 z0 z1 z2 x0 x1 x2
              by_cases hlt : i < ks.length
              · cases bad'
                · have hd60 : deep ≤ 60 := (HF.out (X.out (Q.out rfl).bad).1).2.2.1
                  have hp400 : p' ≤ 400 := (Q.out rfl).le
                  have hlt3 : i < vs.length := by
                    have := (HF.out (X.out (Q.out rfl).bad).1).2.2.2.1.2.2.2.2.2.2
                    omega
                  obtain ⟨b2, o2, rfl, hb2, k0⟩ := keyAt (R0.out.slice HOK.out S2.out) i hlt
                  obtain ⟨s, hs⟩ : ∃ s, s = kth ks i := ⟨_, rfl⟩
                  rw [← hs] at k0
                  have hsz : s.size ≤ 140737488355328 := by rw [hs]; exact HS.out.2 _ (kth_mem _ _ hlt)
                  have HSZ := Lib.hid hsz
                  have HSK := Lib.hid hs
                  clear hs hsz
                  by_cases h0 : i = 0
                  · subst h0
                    simp only [Nat.add_zero] at k0
                    go_upto_region 13 with (go_at_call 37; refine (str_any _ _ _ _ _ _ R0.out.lk (R0.out.tabs HT.out g3 g4) g3 g4 HSZ.out).mono ?_; rintro e w3 ⟨rfl, b3', bad3', hl3, hb3, hv3⟩; have HR3 := Lib.hid (R0.out.old hl3 hb3); have HV3 := Lib.hid (show Ok_ bad3' _ from hv3); obtain ⟨xx0, xx1, xx2, xx3, xx4, xx5⟩ := HR3.out.box hgw; clear xx0 xx1 xx2 xx3 xx5; obtain ⟨b2', o2', hA2, _, kk0⟩ := keyAt (HR3.out.slice HOK.out S2.out) 0 hlt; cases hA2; rw [← HSK.out] at kk0; simp only [Nat.add_zero] at kk0; clear hl3 hb3 hv3)
                    go_cut [] from 126 to 173 (fun wx => ∃ bad5, Seen w g k h t (.slice A1 l.length m1) (.slice (some ⟨b2, o2, none⟩) ks.length m2) (.slice A3 vs.length m3) wx p' b3' bad5 ∧ Ok_ bad5 (bad3' = false))
                    case first =>
                      haveI : Nonempty (Stay w3 g p' b3' bad3') := ⟨⟨w3, HR3.out.lk, But.refl _ _⟩⟩
                      refine region_quiet_in (C := fun w' => ∃ n : Stay w3 g p' b3' bad3', w' = n.val) (by kernel_rfl) (by kernel_rfl) ⟨⟨_, Lk.drew HR3.out.lk, (Chg.refl _ _).drew⟩, rfl⟩ ?_
                      repeat (go_big_quiet_step ((go_at_call 36; refine (want_any _ _ _ _ _ true bad3' (by simp) (Stay.lk _)).mono ?_; rintro e w5 ⟨rfl, hl5, hb5⟩; exact ⟨rfl, ⟨⟨w5, hl5, (Stay.but _).trans hb5⟩, rfl⟩⟩)))
                      refine wpQuiet_nil ?_
                      intro w' hw'
                      obtain ⟨⟨w5, hl5, hb5⟩, rfl⟩ := hw'
                      go_wp2_with fail
                      go_meet
                      exact ⟨_, HR3.out.old hl5 hb5, fun hx => hx⟩
                    case rest =>
                      obtain ⟨bad5, hs5, hc5⟩ := hcut
                      have HC5 := Lib.hid hc5
                      have HR5 := Lib.hid hs5
                      clear hc5
                      obtain ⟨xz0, xz1, xz2, xz3, xz4, xz5⟩ := hs5.box hgw
                      clear hs5 xz0 xz1 xz2 xz3 xz4
                      obtain ⟨b1, o1, c0, c1, c2, c3, c4, c5, rfl, hb1, hkv, e0, e1, e2, e3, e4, e5⟩ := six (HR5.out.kvs HOK.out S3.out) 0 hlt3
                      obtain ⟨B1, q1', p1', B2, q2', p2', B3, q3', p3', rfl, rfl, rfl, rfl, rfl, rfl⟩ := shape hkv
                      generalize hkd : (nth vs 0).kind = kd at *
                      generalize hhf : (nth vs 0).half = hf at *
                      generalize htx : (nth vs 0).text = tx at *
                      clear hkd hhf htx
                      have KV0 := Lib.hid hkv
                      clear hkv
                      simp only [Nat.zero_mul, Nat.add_zero] at e0 e1 e2 e3 e4 e5
                      go_wp2_with (go_at_call 22; refine (IV.out _ (List.getElem_mem hlt3) _ _ _ _ _ _ _ _ _ _ _ _ _ (by rw [nth_eq]; exact KV0.out) HOK.out HR5.out.lk (HR5.out.tabs HT.out g3 g4) g3 g4 q0 hp400 (by omega) (by omega)).mono ?_; rintro e w4 ⟨rfl, p4, b4, bad4, hl4, hb4, r0, r1, hg4⟩; have HR4 := Lib.hid (HR5.out.old hl4 hb4); have HG4 := Lib.hid (show Ok_ bad4 _ from hg4); clear hl4 hb4 hg4)
                      go_roundg (gk - 1)
                      case measure => have := HI.out; omega
                      case rel =>
                        refine ⟨0 + 1, p4, b4, bad4, by have := HI.out; omega, by go_num, HR4.out, r0, r1, fun hx => ?_⟩
                        obtain ⟨hw1, hx2, hx3, hx4⟩ := HG4.out hx
                        have hw := HC5.out hw1
                        obtain ⟨hy1, hy2, hy3, hy4⟩ := Q.out rfl
                        have hns := nsum_succ vs 0 hlt3
                        refine ⟨hy1, by omega, hx3, fun j hj => ?_⟩
                        obtain rfl : j = 0 := by omega
                        rw [nth_eq] at hx4
                        refine ⟨hx4, ?_, fun h => absurd h (by omega)⟩
                        rw [← HSK.out]
                        exact (HV3.out hw).2
                  · obtain ⟨q, rfl⟩ : ∃ q, i = q + 1 := ⟨i - 1, by omega⟩
                    have hqn : q < ks.length := by omega
                    have hqz : (((q : Int) + 1) == 0) = false := by rw [beq_eq_false_iff_ne]; omega
                    have hb0 : (0 : Int) ≤ (q : Int) := by omega
                    have hb1 : (q : Int) < (ks.length : Int) := by omega
                    have hb2 : (q : Int) + 1 < (ks.length : Int) := by omega
                    have hb3 : (0 : Int) ≤ (q : Int) + 1 := by omega
                    have hwq : IntKind.i64.wrap ((q : Int) + 1 - 1) = (q : Int) := by rw [Int.add_sub_cancel]; exact IntWalk.i64_in (q : Int) ⟨by omega, by omega⟩
                    have hwq2 : IntKind.i64.wrap (q : Int) = (q : Int) := IntWalk.i64_in (q : Int) ⟨by omega, by omega⟩
                    obtain ⟨s0, hs0⟩ : ∃ s, s = kth ks q := ⟨_, rfl⟩
                    obtain ⟨lt, hlt0⟩ : ∃ lt, Op.bytesLess s0.toList s.toList = lt := ⟨_, rfl⟩
                    have HLT := Lib.hid (show lt = keyLt s0.data.toList s.data.toList by rw [← hlt0, less_key])
                    have HS0 := Lib.hid hs0
                    clear hs0
                    go_upto_region 13 with (go_at_call 37; refine (str_any _ _ _ _ _ _ R0.out.lk (R0.out.tabs HT.out g3 g4) g3 g4 HSZ.out).mono ?_; rintro e w3 ⟨rfl, b3', bad3', hl3, hb3, hv3⟩; have HR3 := Lib.hid (R0.out.old hl3 hb3); have HV3 := Lib.hid (show Ok_ bad3' _ from hv3); obtain ⟨xx0, xx1, xx2, xx3, xx4, xx5⟩ := HR3.out.box hgw; clear xx0 xx1 xx2 xx3 xx5; obtain ⟨b2', o2', hA2, _, kk0⟩ := keyAt (HR3.out.slice HOK.out S2.out) (q + 1) hlt; cases hA2; rw [← HSK.out] at kk0; obtain ⟨b2', o2', hA2, _, kkp⟩ := keyAt (HR3.out.slice HOK.out S2.out) q hqn; cases hA2; rw [← HS0.out] at kkp; clear hl3 hb3 hv3)
                    go_cut [] from 126 to 173 (fun wx => ∃ bad5, Seen w g k h t (.slice A1 l.length m1) (.slice (some ⟨b2, o2, none⟩) ks.length m2) (.slice A3 vs.length m3) wx p' b3' bad5 ∧ Ok_ bad5 (bad3' = false ∧ lt = true))
                    case first =>
                      go_region_held3 (fun w' => w'.cell? ⟨w.heap.size, 4, none⟩ = some (.slice (some ⟨b2, o2, none⟩) ks.length m2) ∧ w'.cell? ⟨b2, o2 + q, none⟩ = some (.string s0) ∧ w'.cell? ⟨b2, o2 + (q + 1), none⟩ = some (.string s)) (go_keep) ((go_at_call 36; refine (want_any _ _ _ _ _ _ _ rfl (by first | exact HR3.out.lk | exact Lk.drew HR3.out.lk)).mono ?_; rintro e w5 ⟨rfl, hl5, hb5⟩; have HB5 : But g w3 w5 := (by first | exact hb5 | exact But.trans ((Chg.refl _ _).drew) hb5); obtain ⟨_, _, _, _, zz4, _⟩ := (HR3.out.old hl5 HB5).box hgw; obtain ⟨b2', o2', hA2, _, zz0⟩ := keyAt ((HR3.out.old hl5 HB5).slice HOK.out S2.out) (q + 1) hlt; cases hA2; rw [← HSK.out] at zz0; obtain ⟨b2', o2', hA2, _, zzp⟩ := keyAt ((HR3.out.old hl5 HB5).slice HOK.out S2.out) q hqn; cases hA2; rw [← HS0.out] at zzp))
                      all_goals (go_wp2_with fail; go_meet; first | exact ⟨_, HR3.out.old hl5 hb5, fun hx => by simpa using hx⟩ | exact ⟨_, HR3.out.old hl5 (But.trans ((Chg.refl _ _).drew) hb5), fun hx => by simpa using hx⟩)
                    case rest =>
                      obtain ⟨bad5, hs5, hc5⟩ := hcut
                      have HC5 := Lib.hid hc5
                      have HR5 := Lib.hid hs5
                      clear hc5
                      obtain ⟨xz0, xz1, xz2, xz3, xz4, xz5⟩ := hs5.box hgw
                      clear hs5 xz0 xz1 xz2 xz3 xz4
                      obtain ⟨b1, o1, c0, c1, c2, c3, c4, c5, rfl, hb1, hkv, e0, e1, e2, e3, e4, e5⟩ := six (HR5.out.kvs HOK.out S3.out) (q + 1) hlt3
                      obtain ⟨B1, q1', p1', B2, q2', p2', B3, q3', p3', rfl, rfl, rfl, rfl, rfl, rfl⟩ := shape hkv
                      generalize hkd : (nth vs (q + 1)).kind = kd at *
                      generalize hhf : (nth vs (q + 1)).half = hf at *
                      generalize htx : (nth vs (q + 1)).text = tx at *
                      clear hkd hhf htx
                      have KV0 := Lib.hid hkv
                      clear hkv
                      go_wp2_with (go_at_call 22; refine (IV.out _ (List.getElem_mem hlt3) _ _ _ _ _ _ _ _ _ _ _ _ _ (by rw [nth_eq]; exact KV0.out) HOK.out HR5.out.lk (HR5.out.tabs HT.out g3 g4) g3 g4 q0 hp400 (by omega) (by omega)).mono ?_; rintro e w4 ⟨rfl, p4, b4, bad4, hl4, hb4, r0, r1, hg4⟩; have HR4 := Lib.hid (HR5.out.old hl4 hb4); have HG4 := Lib.hid (show Ok_ bad4 _ from hg4); clear hl4 hb4 hg4)
                      go_roundg (gk - 1)
                      case measure => have := HI.out; omega
                      case rel =>
                        refine ⟨q + 1 + 1, p4, b4, bad4, by have := HI.out; omega, by go_num, HR4.out, r0, r1, fun hx => ?_⟩
                        obtain ⟨hw1, hx2, hx3, hx4⟩ := HG4.out hx
                        have hw := HC5.out hw1
                        obtain ⟨hy1, hy2, hy3, hy4⟩ := Q.out rfl
                        have hns := nsum_succ vs (q + 1) hlt3
                        refine ⟨hy1, by omega, hx3, fun j hj => ?_⟩
                        by_cases hji : j = q + 1
                        · subst hji
                          rw [nth_eq] at hx4
                          refine ⟨hx4, ?_, fun _ => ?_⟩
                          · rw [← HSK.out]
                            exact (HV3.out hw.1).2
                          · rw [Nat.add_sub_cancel, ← HSK.out, ← HS0.out, ← HLT.out]
                            exact hw.2
                        · exact hy4 j (by omega)
                · go_wp2
                  go_end0
                  refine ⟨rfl, p', b', _, R0.out.lk, (((Chg.refl _ w).alloc _).trans R0.out.but), q0, q1, fun hx => ?_⟩
                  cases hx
              · cases bad'
                · go_wp2
                  go_end0
                  refine ⟨rfl, p', b', _, R0.out.lk, (((Chg.refl _ w).alloc _).trans R0.out.but), q0, q1, fun hx => ?_⟩
                  obtain ⟨hy1, hy2, hy3, hy4⟩ := Q.out rfl
                  obtain ⟨hz1, hz2, hz3, hz4⟩ := X.out hy1
                  obtain ⟨f1, f2, f3, f4, f5, f6⟩ := HF.out hz1
                  have hiq := HI.out
                  have hvi : vs.length = i := by
                    have := f4.2.2.2.2.2.2
                    omega
                  have hnm := nodes_mk k h t l ks vs
                  rw [hvi] at hnm
                  have hg1 := nsum_ge l l.length (Nat.le_refl _)
                  have hg2 := nsum_ge vs i (by omega)
                  exact ⟨f1, by omega, hy3, good_of f4 f5 HS.out.1 f6 (by omega) (by omega) HS.out.2 (fun j hj => hz4 j hj) (fun j hj => hy4 j (by omega))⟩
                · go_wp2
                  go_end0
                  refine ⟨rfl, p', b', _, R0.out.lk, (((Chg.refl _ w).alloc _).trans R0.out.but), q0, q1, fun hx => ?_⟩
                  cases hx
          · have X := Lib.hid (show Ok_ true (bad3 = false ∧ p + 1 + (nsum l l.length : Nat) ≤ p' ∧ p' ≤ 400 ∧ ∀ j, j < l.length → Right (nth l j)) from fun h => by cases h)
            clear Q
            go_wp2_with fail
            go_loopg [7] ks.length (KeysSeen w g k h t (.slice A1 l.length m1) (.slice A2 ks.length m2) (.slice A3 vs.length m3) (p + 1 + (nsum l l.length : Nat)) true ks vs)
            case atStart => exact ⟨0, _, _, _, by simp, rfl, R0.out, q0, q1, fun hx => ⟨hx, by have := (X.out hx).2.1; rw [nsum_zero]; simp; omega, (X.out hx).2.2.1, fun j hj => absurd hj (by omega)⟩⟩
            case round =>
              clear R0 x3 x4 x5 y2 y3 HI hlt
              clear q0 q1
              obtain ⟨i, p', b', bad', hi, rfl, R, q0, q1, hq⟩ := hrel
              have R0 := Lib.hid R
              have HI := Lib.hid hi
              have Q := Lib.hid hq
              clear hq hi
              obtain ⟨x0, x1, x2, x3, x4, x5⟩ := R.box hgw
              obtain ⟨y0, y1, y2, z0, z1, z2, y3⟩ := R.lk.cells
              clear R y0 y1 z0 z1 z2 x0 x1 x2
              by_cases hlt : i < ks.length
              · cases bad'
                · have hd60 : deep ≤ 60 := (HF.out (X.out (Q.out rfl).bad).1).2.2.1
                  have hp400 : p' ≤ 400 := (Q.out rfl).le
                  have hlt3 : i < vs.length := by
                    have := (HF.out (X.out (Q.out rfl).bad).1).2.2.2.1.2.2.2.2.2.2
                    omega
                  obtain ⟨b2, o2, rfl, hb2, k0⟩ := keyAt (R0.out.slice HOK.out S2.out) i hlt
                  obtain ⟨s, hs⟩ : ∃ s, s = kth ks i := ⟨_, rfl⟩
                  rw [← hs] at k0
                  have hsz : s.size ≤ 140737488355328 := by rw [hs]; exact HS.out.2 _ (kth_mem _ _ hlt)
                  have HSZ := Lib.hid hsz
                  have HSK := Lib.hid hs
                  clear hs hsz
                  by_cases h0 : i = 0
                  · subst h0
                    simp only [Nat.add_zero] at k0
                    go_upto_region 13 with (go_at_call 37; refine (str_any _ _ _ _ _ _ R0.out.lk (R0.out.tabs HT.out g3 g4) g3 g4 HSZ.out).mono ?_; rintro e w3 ⟨rfl, b3', bad3', hl3, hb3, hv3⟩; have HR3 := Lib.hid (R0.out.old hl3 hb3); have HV3 := Lib.hid (show Ok_ bad3' _ from hv3); obtain ⟨xx0, xx1, xx2, xx3, xx4, xx5⟩ := HR3.out.box hgw; clear xx0 xx1 xx2 xx3 xx5; obtain ⟨b2', o2', hA2, _, kk0⟩ := keyAt (HR3.out.slice HOK.out S2.out) 0 hlt; cases hA2; rw [← HSK.out] at kk0; simp only [Nat.add_zero] at kk0; clear hl3 hb3 hv3)
                    go_cut [] from 126 to 173 (fun wx => ∃ bad5, Seen w g k h t (.slice A1 l.length m1) (.slice (some ⟨b2, o2, none⟩) ks.length m2) (.slice A3 vs.length m3) wx p' b3' bad5 ∧ Ok_ bad5 (bad3' = false))
                    case first =>
                      haveI : Nonempty (Stay w3 g p' b3' bad3') := ⟨⟨w3, HR3.out.lk, But.refl _ _⟩⟩
                      refine region_quiet_in (C := fun w' => ∃ n : Stay w3 g p' b3' bad3', w' = n.val) (by kernel_rfl) (by kernel_rfl) ⟨⟨_, Lk.drew HR3.out.lk, (Chg.refl _ _).drew⟩, rfl⟩ ?_
                      repeat (go_big_quiet_step ((go_at_call 36; refine (want_any _ _ _ _ _ true bad3' (by simp) (Stay.lk _)).mono ?_; rintro e w5 ⟨rfl, hl5, hb5⟩; exact ⟨rfl, ⟨⟨w5, hl5, (Stay.but _).trans hb5⟩, rfl⟩⟩)))
                      refine wpQuiet_nil ?_
                      intro w' hw'
                      obtain ⟨⟨w5, hl5, hb5⟩, rfl⟩ := hw'
                      go_wp2_with fail
                      go_meet
                      exact ⟨_, HR3.out.old hl5 hb5, fun hx => hx⟩
                    case rest =>
                      obtain ⟨bad5, hs5, hc5⟩ := hcut
                      have HC5 := Lib.hid hc5
                      have HR5 := Lib.hid hs5
                      clear hc5
                      obtain ⟨xz0, xz1, xz2, xz3, xz4, xz5⟩ := hs5.box hgw
                      clear hs5 xz0 xz1 xz2 xz3 xz4
                      obtain ⟨b1, o1, c0, c1, c2, c3, c4, c5, rfl, hb1, hkv, e0, e1, e2, e3, e4, e5⟩ := six (HR5.out.kvs HOK.out S3.out) 0 hlt3
                      obtain ⟨B1, q1', p1', B2, q2', p2', B3, q3', p3', rfl, rfl, rfl, rfl, rfl, rfl⟩ := shape hkv
                      generalize hkd : (nth vs 0).kind = kd at *
                      generalize hhf : (nth vs 0).half = hf at *
                      generalize htx : (nth vs 0).text = tx at *
                      clear hkd hhf htx
                      have KV0 := Lib.hid hkv
                      clear hkv
                      simp only [Nat.zero_mul, Nat.add_zero] at e0 e1 e2 e3 e4 e5
                      go_wp2_with (go_at_call 22; refine (IV.out _ (List.getElem_mem hlt3) _ _ _ _ _ _ _ _ _ _ _ _ _ (by rw [nth_eq]; exact KV0.out) HOK.out HR5.out.lk (HR5.out.tabs HT.out g3 g4) g3 g4 q0 hp400 (by omega) (by omega)).mono ?_; rintro e w4 ⟨rfl, p4, b4, bad4, hl4, hb4, r0, r1, hg4⟩; have HR4 := Lib.hid (HR5.out.old hl4 hb4); have HG4 := Lib.hid (show Ok_ bad4 _ from hg4); clear hl4 hb4 hg4)
                      go_roundg (gk - 1)
                      case measure => have := HI.out; omega
                      case rel =>
                        refine ⟨0 + 1, p4, b4, bad4, by have := HI.out; omega, by go_num, HR4.out, r0, r1, fun hx => ?_⟩
                        obtain ⟨hw1, hx2, hx3, hx4⟩ := HG4.out hx
                        have hw := HC5.out hw1
                        obtain ⟨hy1, hy2, hy3, hy4⟩ := Q.out rfl
                        have hns := nsum_succ vs 0 hlt3
                        refine ⟨hy1, by omega, hx3, fun j hj => ?_⟩
                        obtain rfl : j = 0 := by omega
                        rw [nth_eq] at hx4
                        refine ⟨hx4, ?_, fun h => absurd h (by omega)⟩
                        rw [← HSK.out]
                        exact (HV3.out hw).2
                  · obtain ⟨q, rfl⟩ : ∃ q, i = q + 1 := ⟨i - 1, by omega⟩
                    have hqn : q < ks.length := by omega
                    have hqz : (((q : Int) + 1) == 0) = false := by rw [beq_eq_false_iff_ne]; omega
                    have hb0 : (0 : Int) ≤ (q : Int) := by omega
                    have hb1 : (q : Int) < (ks.length : Int) := by omega
                    have hb2 : (q : Int) + 1 < (ks.length : Int) := by omega
                    have hb3 : (0 : Int) ≤ (q : Int) + 1 := by omega
                    have hwq : IntKind.i64.wrap ((q : Int) + 1 - 1) = (q : Int) := by rw [Int.add_sub_cancel]; exact IntWalk.i64_in (q : Int) ⟨by omega, by omega⟩
                    have hwq2 : IntKind.i64.wrap (q : Int) = (q : Int) := IntWalk.i64_in (q : Int) ⟨by omega, by omega⟩
                    obtain ⟨s0, hs0⟩ : ∃ s, s = kth ks q := ⟨_, rfl⟩
                    obtain ⟨lt, hlt0⟩ : ∃ lt, Op.bytesLess s0.toList s.toList = lt := ⟨_, rfl⟩
                    have HLT := Lib.hid (show lt = keyLt s0.data.toList s.data.toList by rw [← hlt0, less_key])
                    have HS0 := Lib.hid hs0
                    clear hs0
                    go_upto_region 13 with (go_at_call 37; refine (str_any _ _ _ _ _ _ R0.out.lk (R0.out.tabs HT.out g3 g4) g3 g4 HSZ.out).mono ?_; rintro e w3 ⟨rfl, b3', bad3', hl3, hb3, hv3⟩; have HR3 := Lib.hid (R0.out.old hl3 hb3); have HV3 := Lib.hid (show Ok_ bad3' _ from hv3); obtain ⟨xx0, xx1, xx2, xx3, xx4, xx5⟩ := HR3.out.box hgw; clear xx0 xx1 xx2 xx3 xx5; obtain ⟨b2', o2', hA2, _, kk0⟩ := keyAt (HR3.out.slice HOK.out S2.out) (q + 1) hlt; cases hA2; rw [← HSK.out] at kk0; obtain ⟨b2', o2', hA2, _, kkp⟩ := keyAt (HR3.out.slice HOK.out S2.out) q hqn; cases hA2; rw [← HS0.out] at kkp; clear hl3 hb3 hv3)
                    go_cut [] from 126 to 173 (fun wx => ∃ bad5, Seen w g k h t (.slice A1 l.length m1) (.slice (some ⟨b2, o2, none⟩) ks.length m2) (.slice A3 vs.length m3) wx p' b3' bad5 ∧ Ok_ bad5 (bad3' = false ∧ lt = true))
                    case first =>
                      go_region_held3 (fun w' => w'.cell? ⟨w.heap.size, 4, none⟩ = some (.slice (some ⟨b2, o2, none⟩) ks.length m2) ∧ w'.cell? ⟨b2, o2 + q, none⟩ = some (.string s0) ∧ w'.cell? ⟨b2, o2 + (q + 1), none⟩ = some (.string s)) (go_keep) ((go_at_call 36; refine (want_any _ _ _ _ _ _ _ rfl (by first | exact HR3.out.lk | exact Lk.drew HR3.out.lk)).mono ?_; rintro e w5 ⟨rfl, hl5, hb5⟩; have HB5 : But g w3 w5 := (by first | exact hb5 | exact But.trans ((Chg.refl _ _).drew) hb5); obtain ⟨_, _, _, _, zz4, _⟩ := (HR3.out.old hl5 HB5).box hgw; obtain ⟨b2', o2', hA2, _, zz0⟩ := keyAt ((HR3.out.old hl5 HB5).slice HOK.out S2.out) (q + 1) hlt; cases hA2; rw [← HSK.out] at zz0; obtain ⟨b2', o2', hA2, _, zzp⟩ := keyAt ((HR3.out.old hl5 HB5).slice HOK.out S2.out) q hqn; cases hA2; rw [← HS0.out] at zzp))
                      all_goals (go_wp2_with fail; go_meet; first | exact ⟨_, HR3.out.old hl5 hb5, fun hx => by simpa using hx⟩ | exact ⟨_, HR3.out.old hl5 (But.trans ((Chg.refl _ _).drew) hb5), fun hx => by simpa using hx⟩)
                    case rest =>
                      obtain ⟨bad5, hs5, hc5⟩ := hcut
                      have HC5 := Lib.hid hc5
                      have HR5 := Lib.hid hs5
                      clear hc5
                      obtain ⟨xz0, xz1, xz2, xz3, xz4, xz5⟩ := hs5.box hgw
                      clear hs5 xz0 xz1 xz2 xz3 xz4
                      obtain ⟨b1, o1, c0, c1, c2, c3, c4, c5, rfl, hb1, hkv, e0, e1, e2, e3, e4, e5⟩ := six (HR5.out.kvs HOK.out S3.out) (q + 1) hlt3
                      obtain ⟨B1, q1', p1', B2, q2', p2', B3, q3', p3', rfl, rfl, rfl, rfl, rfl, rfl⟩ := shape hkv
                      generalize hkd : (nth vs (q + 1)).kind = kd at *
                      generalize hhf : (nth vs (q + 1)).half = hf at *
                      generalize htx : (nth vs (q + 1)).text = tx at *
                      clear hkd hhf htx
                      have KV0 := Lib.hid hkv
                      clear hkv
                      go_wp2_with (go_at_call 22; refine (IV.out _ (List.getElem_mem hlt3) _ _ _ _ _ _ _ _ _ _ _ _ _ (by rw [nth_eq]; exact KV0.out) HOK.out HR5.out.lk (HR5.out.tabs HT.out g3 g4) g3 g4 q0 hp400 (by omega) (by omega)).mono ?_; rintro e w4 ⟨rfl, p4, b4, bad4, hl4, hb4, r0, r1, hg4⟩; have HR4 := Lib.hid (HR5.out.old hl4 hb4); have HG4 := Lib.hid (show Ok_ bad4 _ from hg4); clear hl4 hb4 hg4)
                      go_roundg (gk - 1)
                      case measure => have := HI.out; omega
                      case rel =>
                        refine ⟨q + 1 + 1, p4, b4, bad4, by have := HI.out; omega, by go_num, HR4.out, r0, r1, fun hx => ?_⟩
                        obtain ⟨hw1, hx2, hx3, hx4⟩ := HG4.out hx
                        have hw := HC5.out hw1
                        obtain ⟨hy1, hy2, hy3, hy4⟩ := Q.out rfl
                        have hns := nsum_succ vs (q + 1) hlt3
                        refine ⟨hy1, by omega, hx3, fun j hj => ?_⟩
                        by_cases hji : j = q + 1
                        · subst hji
                          rw [nth_eq] at hx4
                          refine ⟨hx4, ?_, fun _ => ?_⟩
                          · rw [← HSK.out]
                            exact (HV3.out hw.1).2
                          · rw [Nat.add_sub_cancel, ← HSK.out, ← HS0.out, ← HLT.out]
                            exact hw.2
                        · exact hy4 j (by omega)
                · go_wp2
                  go_end0
                  refine ⟨rfl, p', b', _, R0.out.lk, (((Chg.refl _ w).alloc _).trans R0.out.but), q0, q1, fun hx => ?_⟩
                  cases hx
              · cases bad'
                · go_wp2
                  go_end0
                  refine ⟨rfl, p', b', _, R0.out.lk, (((Chg.refl _ w).alloc _).trans R0.out.but), q0, q1, fun hx => ?_⟩
                  obtain ⟨hy1, hy2, hy3, hy4⟩ := Q.out rfl
                  obtain ⟨hz1, hz2, hz3, hz4⟩ := X.out hy1
                  obtain ⟨f1, f2, f3, f4, f5, f6⟩ := HF.out hz1
                  have hiq := HI.out
                  have hvi : vs.length = i := by
                    have := f4.2.2.2.2.2.2
                    omega
                  have hnm := nodes_mk k h t l ks vs
                  rw [hvi] at hnm
                  have hg1 := nsum_ge l l.length (Nat.le_refl _)
                  have hg2 := nsum_ge vs i (by omega)
                  exact ⟨f1, by omega, hy3, good_of f4 f5 HS.out.1 f6 (by omega) (by omega) HS.out.2 (fun j hj => hz4 j hj) (fun j hj => hy4 j (by omega))⟩
                · go_wp2
                  go_end0
                  refine ⟨rfl, p', b', _, R0.out.lk, (((Chg.refl _ w).alloc _).trans R0.out.but), q0, q1, fun hx => ?_⟩
                  cases hx
end Go.Proofs.YthggnkmlnjlggaaGreatDoor
