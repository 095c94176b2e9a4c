/-
  A right value as the program takes it: maps, and all together.
  Conditions: the value is right.
-/
import Derived.Test.YthggnkmlnjlggaaGreatDoorToGo
namespace Go.Proofs.YthggnkmlnjlggaaGreatDoor
open Go.RowKit

def kth (ks : List ByteArray) (i : Nat) : ByteArray := ks.getD i nilS

/-! ### Maps whose keys come in order -/
theorem before_eq : ∀ a b : List UInt8, bytesBefore a b = keyLt a b
  | [], [] => rfl
  | [], _ :: _ => rfl
  | _ :: _, [] => rfl
  | a :: r, b :: s => by simp [bytesBefore, keyLt, before_eq r s]
theorem less_eq : ∀ a b : List UInt8, Op.bytesLess a b = keyLt a b
  | [], [] => rfl
  | [], _ :: _ => rfl
  | _ :: _, [] => rfl
  | a :: r, b :: s => by simp [Op.bytesLess, keyLt, less_eq r s]
theorem less_key (a b : ByteArray) : Op.bytesLess a.toList b.toList = keyLt a.data.toList b.data.toList := by rw [Lib.toList_data, Lib.toList_data, less_eq]
theorem keyLt_irrefl : ∀ a : List UInt8, keyLt a a = false
  | [] => rfl
  | a :: r => by simp [keyLt, keyLt_irrefl r]
theorem keyLt_asymm : ∀ a b : List UInt8, keyLt a b = true → keyLt b a = false
  | [], [] => by simp [keyLt]
  | [], _ :: _ => by simp [keyLt]
  | _ :: _, [] => by simp [keyLt]
  | a :: r, b :: s => by
    simp only [keyLt, Bool.or_eq_true, decide_eq_true_eq, Bool.and_eq_true, beq_iff_eq, Bool.or_eq_false_iff, decide_eq_false_iff_not, Bool.and_eq_false_iff]
    rintro (h | ⟨rfl, h⟩)
    · refine ⟨fun h2 => ?_, .inl ?_⟩
      · have := UInt8.lt_asymm h h2; exact this
      · simp only [beq_eq_false_iff_ne]
        rintro rfl
        exact UInt8.lt_irrefl _ h
    · exact ⟨UInt8.lt_irrefl _, .inr (keyLt_asymm r s h)⟩
theorem zip_snoc (ks : List ByteArray) (xs : List Value) (k : ByteArray) (x : Value) (h : ks.length = xs.length) : List.zipWith entry (ks ++ [k]) (xs ++ [x]) = List.zipWith entry ks xs ++ [entry k x] := by
  rw [List.zipWith_append h]
  rfl
theorem insert_last (e : Lit × DataW Value) : ∀ l : List (Lit × DataW Value), (∀ p ∈ l, e.1.before p.1 = false) → DataW.insert e l = l ++ [e]
  | [], _ => rfl
  | y :: r, h => by
    rw [DataW.insert, if_neg (by rw [h y List.mem_cons_self]; simp), insert_last e r fun p hp => h p (List.mem_cons_of_mem _ hp)]
    rfl
theorem mem_zip {ks : List ByteArray} {xs : List Value} {p : Lit × DataW Value} (h : p ∈ List.zipWith entry ks xs) : ∃ k ∈ ks, ∃ x ∈ xs, p = entry k x := by
  rw [List.mem_iff_getElem?] at h
  obtain ⟨i, hi⟩ := h
  rw [List.getElem?_zipWith] at hi
  cases hk : ks[i]? with
  | none => rw [hk] at hi; simp at hi
  | some k =>
    cases hx : xs[i]? with
    | none => rw [hk, hx] at hi; simp at hi
    | some x =>
      rw [hk, hx] at hi
      simp only [Option.some.injEq] at hi
      exact ⟨k, List.mem_of_getElem? hk, x, List.mem_of_getElem? hx, hi.symm⟩
/-- A key behind all others. -/
theorem put_last (ks : List ByteArray) (xs : List Value) (k : ByteArray) (x : Value) (h : ks.length = xs.length) (hk : ∀ a ∈ ks, keyLt a.data.toList k.data.toList = true) :
    (mapD ks xs).put (.string k.data.toList) (.held x) = mapD (ks ++ [k]) (xs ++ [x]) := by
  unfold mapD
  rw [DataW.put_eq, zip_snoc ks xs k x h]
  unfold ChangeMaps.putKey
  have hf : (List.zipWith entry ks xs).filter (ChangeMaps.notKey (.string k.data.toList)) = List.zipWith entry ks xs := by
    rw [List.filter_eq_self]
    intro p hp
    obtain ⟨a, ha, y, _, rfl⟩ := mem_zip hp
    have h1 := hk a ha
    simp only [ChangeMaps.notKey, entry, Lit.sameKey, Bool.not_eq_true', beq_eq_false_iff_ne]
    intro he
    rw [he, keyLt_irrefl] at h1
    cases h1
  rw [hf]
  congr 1
  refine insert_last (entry k x) _ fun p hp => ?_
  obtain ⟨a, ha, y, _, rfl⟩ := mem_zip hp
  show bytesBefore _ _ = false
  rw [before_eq]
  exact keyLt_asymm _ _ (hk a ha)
theorem take_snoc {α : Type} (l : List α) (k : Nat) (d : α) (h : k < l.length) : l.take (k + 1) = l.take k ++ [l.getD k d] := by
  rw [List.take_succ_eq_append_getElem h]
  simp [h]
theorem rising_take {ks : List ByteArray} (h : Rising ks) (k : Nat) (hk : k < ks.length) : ∀ a ∈ ks.take k, keyLt a.data.toList (kth ks k).data.toList = true := by
  intro a ha
  rw [List.mem_take_iff_getElem] at ha
  obtain ⟨i, hi, rfl⟩ := ha
  have := (List.pairwise_iff_getElem.1 h) i k (by omega) hk (by omega)
  simpa [kth, hk] using this
theorem rising_step {ks : List ByteArray} (h : Rising ks) (q : Nat) (hq : q + 1 < ks.length) : keyLt (kth ks q).data.toList (kth ks (q + 1)).data.toList = true := by
  have := (List.pairwise_iff_getElem.1 h) q (q + 1) (by omega) hq (by omega)
  simpa [kth, hq, show q < ks.length by omega] using this

/-- What has been put into the map so far. -/
structure Put (w wr : World) (b : Nat) (ks : List ByteArray) (vs : List V) (k : Nat) : Prop where
  map : ∃ xs : List Value, xs.length = k ∧ wr.ownsMap Tryz.prog 9 held b k (mapD (ks.take k) xs) ∧ ∀ j, j < k → KJ wr (fun c => b < c) (toJ (nth vs j)) (xs.getD j .nilIface)
  old : Old w wr
theorem Put.later {w wr w2 : World} {b : Nat} {ks : List ByteArray} {vs : List V} {k : Nat} (h : Put w wr b ks vs k) (ho : Old wr w2) : Put w w2 b ks vs k := by
  obtain ⟨⟨xs, hl, hm, hx⟩, hold⟩ := h
  exact ⟨⟨xs, hl, hm.kept ⟨ho.os, ho.tape, ho.output, ho.size, fun i hi _ => ho.block i hi trivial⟩ (row := none) (by simp), fun j hj => (hx j hj).old ho⟩, hold.trans ho⟩
theorem Put.next_ {w wr w2 : World} {b : Nat} {ks : List ByteArray} {vs : List V} {k : Nat} {xs : List Value} {x : Value} (hb : w.heap.size ≤ b) (h : Put w wr b ks vs k) (hks : Rising ks) (hk : k < ks.length) (hl : xs.length = k)
    (hm : w2.ownsMap Tryz.prog 9 held b (k + 1) ((mapD (ks.take k) xs).put (.string (kth ks k).data.toList) (.held x))) (hj : ∀ j, j < k → KJ wr (fun c => b < c) (toJ (nth vs j)) (xs.getD j .nilIface))
    (hx : KJ wr (fun c => b < c) (toJ (nth vs k)) x) (hg : wr.grownBy w2 (some b)) : Put w w2 b ks vs (k + 1) := by
  have hc : Chg (fun c => b < c) wr w2 := (Chg.refl _ _).grown hg fun c _ (hc : b < c) e => by cases e; omega
  refine ⟨⟨xs ++ [x], by simp [hl], ?_, fun j hj' => ?_⟩, h.old.grown hg fun c e => by cases e; exact hb⟩
  · rw [put_last _ _ _ _ (by rw [List.length_take, hl]; omega) (rising_take hks k hk)] at hm
    rw [take_snoc ks k nilS hk]
    exact hm
  · by_cases he : j = k
    · subst he
      have e : (xs ++ [x]).getD j .nilIface = x := by rw [← hl]; simp
      rw [e]
      exact hx.chg hc
    · have e : (xs ++ [x]).getD j .nilIface = xs.getD j .nilIface := by
        simp only [List.getD_eq_getElem?_getD]
        rw [List.getElem?_append_left (by omega)]
      rw [e]
      exact (hj j (by omega)).chg hc

theorem kth_mem (ks : List ByteArray) (k : Nat) (h : k < ks.length) : kth ks k ∈ ks := by
  unfold kth
  rw [List.getD_eq_getElem?_getD, List.getElem?_eq_getElem h]
  exact List.getElem_mem _
/-- Element k of a slice of texts. -/
theorem keyAt {w : World} {ok : Nat → Prop} {A : Option Addr} {m c : Nat} {ks : List ByteArray} (h : SliceV w ok (.slice A m c) 1 ks.length fun i => [.string (ks.getD i nilS)]) (k : Nat) (hk : k < ks.length) :
    ∃ b o, A = some ⟨b, o, none⟩ ∧ b < w.heap.size ∧ w.cell? ⟨b, o + k, none⟩ = some (.string (kth ks k)) := by
  obtain ⟨b, o, hA, hb, _, hc⟩ := h.at_ k hk
  have := hc 0 (by omega)
  exact ⟨b, o, hA, hb, by simpa [kth] using this⟩

def ToGom (w : World) (ks : List ByteArray) (vs : List V) (e : Ending) (w' : World) : Prop :=
  ∃ b, e = .returned (.tuple #[.map (some b), .bool true]) ∧ w.heap.size ≤ b ∧ (∃ xs : List Value, MapV w' b ks xs ∧ xs.length = vs.length ∧ ∀ i, i < vs.length → KJ w' (fun k => w.heap.size ≤ k) (toJ (nth vs i)) (xs.getD i .nilIface)) ∧ Old w w'

theorem run_makeMapN {P : Program} (t k e : TypeId) (ht : P.underlying t = some (.map k e)) (n : Nat) (w : World) : (Instr.makeMap t (some (.int .i64 (n : Int)))).run P w = .ok (.map (some w.heap.size)) (w.alloc (.map #[] 0)) := by
  unfold Instr.makeMap
  simp [run_underlying ht, asInt, asIntOf]

set_option maxHeartbeats 1000000 in
theorem mapToGo_any (kd hf : Int) (tx : ByteArray) (l : List V) (ks : List ByteArray) (vs : List V) (hv : vs.length ≤ 1048576) (kv : ks.length = vs.length) (hks : Rising ks) (hkt : ∀ s ∈ ks, s.size ≤ 9223372036854775807) (ih : ∀ x ∈ vs, Turns x)
    (w : World) (ok : Nat → Prop) (A1 A2 A3 : Option Addr) (n1 m1 n2 m2 n3 m3 : Nat) (h : KV w ok (.mk kd hf tx l ks vs) [.int .i64 kd, .int .i64 hf, .string tx, .slice A1 n1 m1, .slice A2 n2 m2, .slice A3 n3 m3]) :
    Calls Tryz.prog 32 #[.agg #[.int .i64 kd, .int .i64 hf, .string tx, .slice A1 n1 m1, .slice A2 n2 m2, .slice A3 n3 m3]] w (ToGom w ks vs) := by
  obtain ⟨v1, v2, v3, C1, C3, hcs, s1, r1, s2, s3, r3⟩ := h.form
  simp only [List.cons.injEq, and_true, true_and] at hcs
  obtain ⟨rfl, rfl, rfl⟩ := hcs
  obtain ⟨_, _, he2, hn2⟩ := s2.len
  cases he2
  obtain ⟨_, _, he3, hn3⟩ := s3.len
  cases he3
  have hmk := run_makeMapN (P := Tryz.prog) 62 9 20 Tryz.underlying62 ks.length
  have S2 := Lib.hid s2
  have S3 := Lib.hid (show KVs w ok vs (.slice A3 vs.length m3) from ⟨C3, s3, r3⟩)
  have IH := Lib.hid ih
  have KV_ := Lib.hid kv
  have HT := Lib.hid hkt
  have HS := Lib.hid hks
  have hne : ((ks.length : Int) != (vs.length : Int)) = false := by rw [kv]; simp
  clear s1 s2 s3 r1 r3 h ih kv hkt hks
  go_enter Tryz.func32, Tryz.ntmps32
  go_wp2
  go_loopg [23] ks.length (fun gk s23 wr => ∃ k, k + gk = ks.length ∧ s23 = .int .i64 k ∧ Put (w.alloc (.cells #[.int .i64 kd, .int .i64 hf, .string tx, .slice A1 n1 m1, .slice A2 ks.length m2, .slice A3 vs.length m3] 26)) wr (w.heap.size + 1) ks vs k)
  case atStart => exact ⟨0, by simp, rfl, ⟨⟨[], rfl, by have h0 := World.ownsMap_made (w.alloc (.cells #[.int .i64 kd, .int .i64 hf, .string tx, .slice A1 n1 m1, .slice A2 ks.length m2, .slice A3 vs.length m3] 26)) Tryz.prog 9 held; simpa [mapD] using h0, fun j hj => absurd hj (by omega)⟩, (Old.refl _).alloc _⟩⟩
  case round =>
    obtain ⟨k, hk, rfl, R⟩ := hrel
    have HK := Lib.hid hk
    have x4 : wr.cell? ⟨w.heap.size, 4, none⟩ = some (.slice A2 ks.length m2) := ((Blk.new w #[.int .i64 kd, .int .i64 hf, .string tx, .slice A1 n1 m1, .slice A2 ks.length m2, .slice A3 vs.length m3] 26).old R.old).cell 4
    have x5 : wr.cell? ⟨w.heap.size, 5, none⟩ = some (.slice A3 vs.length m3) := ((Blk.new w #[.int .i64 kd, .int .i64 hf, .string tx, .slice A1 n1 m1, .slice A2 ks.length m2, .slice A3 vs.length m3] 26).old R.old).cell 5
    have ho1 : Old w wr := ((Old.refl w).alloc _).trans R.old
    clear hmk hne
    by_cases hlt : k < ks.length
    · have hlt3 : k < vs.length := by rw [← KV_.out]; exact hlt
      obtain ⟨b3, o3, c0, c1, c2, c3, c4, c5, rfl, hb3, hkv, e0, e1, e2, e3, e4, e5⟩ := six (w := wr) (ok := ok) ⟨S3.out.choose, S3.out.choose_spec.1.old ho1, fun i hi => (S3.out.choose_spec.2 i hi).old ho1⟩ k hlt3
      obtain ⟨B1, q1, p1, B2, q2, p2, B3, q3, p3, rfl, rfl, rfl, rfl, rfl, rfl⟩ := shape hkv
      obtain ⟨b2, o2, rfl, hb2, k0⟩ := keyAt (S2.out.old ho1) k hlt
      have R0 := Lib.hid R
      obtain ⟨kd', hkd⟩ : ∃ x, x = (nth vs k).kind := ⟨_, rfl⟩
      obtain ⟨hf', hhf⟩ : ∃ x, x = (nth vs k).half := ⟨_, rfl⟩
      obtain ⟨tx', htx⟩ : ∃ x, x = (nth vs k).text := ⟨_, rfl⟩
      rw [← hkd, ← hhf, ← htx] at hkv
      rw [← hkd] at e0
      rw [← hhf] at e1
      rw [← htx] at e2
      have KV0 := Lib.hid hkv
      obtain ⟨s, hs⟩ : ∃ s, s = kth ks k := ⟨_, rfl⟩
      rw [← hs] at k0
      have hsz : s.size ≤ maxLen := by
        have := HT.out s (by rw [hs]; exact kth_mem _ _ hlt)
        unfold maxLen
        omega
      have HSK := Lib.hid hs
      obtain ⟨xs, hxl, hown, hxs⟩ := R.map
      have HXL := Lib.hid hxl
      have HXS := Lib.hid hxs
      have hkm : k < maxLen := by unfold maxLen; omega
      clear R hkv hkd hhf htx hs hxl hxs
      by_cases h0 : k = 0
      · subst h0
        simp only [Nat.zero_mul, Nat.add_zero] at k0 e0 e1 e2 e3 e4 e5
        go_wp2_with (first
          | (go_at_call 17; refine (IH.out _ (List.getElem_mem hlt3) _ _ _ _ _ _ _ _ (by rw [nth_eq]; exact KV0.out)).mono ?_; rintro e w2 ⟨x, rfl, hx, ho⟩; have R2 := Lib.hid (R0.out.later ho); have HO := Lib.hid ho; have HX := Lib.hid hx; have hown2 := hown.kept (row := none) ⟨ho.os, ho.tape, ho.output, ho.size, fun i hi _ => ho.block i hi trivial⟩ (by simp); clear ho; rcases jshape hx with rfl | ⟨xt, xv, rfl⟩ <;> clear hx)
          | (at_mapUpdate; refine wpList_mapUpdate_own _ rfl _ _ _ 62 rfl 9 20 (Maps.string_keyed Tryz.underlying9) Tryz.underlying62 held _ _ _ rfl hown2 hkm _ _ _ rfl rfl (WideMaps.keyOf_string_mk Tryz.underlying9 hsz) _ [] rfl ?_; intro w3 hown3 hgrow3; have HG := Lib.hid hgrow3; clear hgrow3))
        all_goals
          go_roundg (gk - 1)
          case measure => omega
          case rel =>
            refine ⟨0 + 1, by omega, by go_num, ?_⟩
            rw [HSK.out] at hown3
            have hj := HX.out
            rw [nth_eq] at hj
            have hbl := hown.lt
            exact R2.out.next_ (by simp) HS.out hlt HXL.out hown3 (fun j hj' => (HXS.out j hj').old HO.out) (hj.mono fun b (hb : wr.heap.size ≤ b) _ => by omega) HG.out
      · obtain ⟨q, rfl⟩ : ∃ q, k = q + 1 := ⟨k - 1, by omega⟩
        clear h0
        obtain ⟨b2', o2', hA2, _, kp⟩ := keyAt (S2.out.old ho1) q (by omega)
        cases hA2
        have hris := rising_step HS.out q hlt
        rw [← HSK.out] at hris
        obtain ⟨s0, hs0⟩ : ∃ s, s = kth ks q := ⟨_, rfl⟩
        rw [← hs0] at kp hris
        rw [← less_key] at hris
        clear hs0
        have hqlt : q < ks.length := by omega
        go_wp2_with (first
          | (go_at_call 17; refine (IH.out _ (List.getElem_mem hlt3) _ _ _ _ _ _ _ _ (by rw [nth_eq]; exact KV0.out)).mono ?_; rintro e w2 ⟨x, rfl, hx, ho⟩; have R2 := Lib.hid (R0.out.later ho); have HO := Lib.hid ho; have HX := Lib.hid hx; have hown2 := hown.kept (row := none) ⟨ho.os, ho.tape, ho.output, ho.size, fun i hi _ => ho.block i hi trivial⟩ (by simp); clear ho; rcases jshape hx with rfl | ⟨xt, xv, rfl⟩ <;> clear hx)
          | (at_mapUpdate; refine wpList_mapUpdate_own _ rfl _ _ _ 62 rfl 9 20 (Maps.string_keyed Tryz.underlying9) Tryz.underlying62 held _ _ _ rfl hown2 hkm _ _ _ rfl rfl (WideMaps.keyOf_string_mk Tryz.underlying9 hsz) _ [] rfl ?_; intro w3 hown3 hgrow3; have HG := Lib.hid hgrow3; clear hgrow3))
        all_goals
          go_roundg (gk - 1)
          case measure => omega
          case rel =>
            refine ⟨q + 1 + 1, by omega, by go_num, ?_⟩
            rw [HSK.out] at hown3
            have hj := HX.out
            rw [nth_eq] at hj
            have hbl := hown.lt
            exact R2.out.next_ (by simp) HS.out hlt HXL.out hown3 (fun j hj' => (HXS.out j hj').old HO.out) (hj.mono fun b (hb : wr.heap.size ≤ b) _ => by omega) HG.out
    · obtain rfl : k = ks.length := by omega
      obtain ⟨xs, hl, hm, hx⟩ := R.map
      go_wp2
      go_ret2
      refine ⟨_, rfl, by omega, ⟨xs, ⟨_, by rw [List.take_length] at hm; exact hm, by have := KV_.out; omega⟩, by rw [hl]; exact KV_.out, fun i hi => ?_⟩, ho1⟩
      exact (hx i (by rw [KV_.out]; exact hi)).mono fun c (hc : w.heap.size + 1 < c) _ => by omega


theorem tdiv_even (h : Int) (he : h % 2 = 0) : h.tdiv 2 = h / 2 := Int.tdiv_eq_ediv_of_dvd (by omega)
theorem tmod_even (h : Int) (he : h % 2 = 0) : h.tmod 2 = 0 := Int.tmod_eq_zero_of_dvd (by omega)
theorem tmod_odd (h : Int) (he : ¬ h % 2 = 0) : ¬ h.tmod 2 = 0 := fun h0 => by
  have := Int.dvd_of_tmod_eq_zero h0
  omega

theorem run_quo (h : Int) (h0 : h ≠ 0) (hb : -9007199254740992 < h ∧ h < 9007199254740992) (w : World) : (binOp .quo 58 (.float .f64 (floatOfInt .f64 h)) (.float .f64 4611686018427387904)).run Tryz.prog w = .ok (.float .f64 (fhalf h)) w :=
  run_float_arith w .quo 58 .f64 _ _ _ (flt_div h0 hb)

set_option maxHeartbeats 2000000 in
theorem toGo_any {v : V} (hg : Good v) : Turns v := by
  induction hg with
  | mk k h t l ks vs k0 k6 hk tk lk kk kv hh ht hl hv hks hkt gl gv ihl ihv =>
    intro w ok c0 c1 c2 c3 c4 c5 hkv
    obtain ⟨A1, n1, m1, A2, n2, m2, A3, n3, m3, rfl, rfl, rfl, rfl, rfl, rfl⟩ := shape hkv
    simp only [V.kind, V.half, V.text] at hkv ⊢
    have HKV := Lib.hid hkv
    have IL := Lib.hid ihl
    have IV := Lib.hid ihv
    have HH := Lib.hid hh
    clear hkv ihl ihv gl gv hh
    rcases (show k = 0 ∨ k = 1 ∨ k = 2 ∨ k = 3 ∨ k = 4 ∨ k = 5 ∨ k = 6 by omega) with rfl | rfl | rfl | rfl | rfl | rfl | rfl
    · clear hk tk lk kk
      go_enter Tryz.func17, Tryz.ntmps17
      go_wp2
      go_ret2
      exact ⟨_, rfl, .nil, (Old.refl w).alloc _⟩
    · clear hk tk lk kk
      go_enter Tryz.func17, Tryz.ntmps17
      go_wp2
      go_ret2
      exact ⟨_, rfl, .bool false, (Old.refl w).alloc _⟩
    · clear hk tk lk kk
      go_enter Tryz.func17, Tryz.ntmps17
      go_wp2
      go_ret2
      exact ⟨_, rfl, .bool true, (Old.refl w).alloc _⟩
    · clear hk tk lk kk
      by_cases he : h % 2 = 0
      · have ht2 : (h.tmod 2 == 0) = true := by rw [tmod_even h he]; rfl
        have hd := HH.out
        unfold HalfOk at hd
        obtain ⟨hd1, hd2, _⟩ := hd
        have HE := Lib.hid he
        clear he
        go_enter Tryz.func17, Tryz.ntmps17
        go_wp2
        go_ret2
        refine ⟨.iface 3 (.int .i64 (h / 2)), ?_, ?_, (Old.refl w).alloc _⟩
        · show Ending.returned (.tuple #[.iface 3 (.int .i64 (h.tdiv 2)), .bool true]) = _
          rw [tdiv_even h HE.out]
        · have e : toJ (.mk 3 h t l ks vs) = .int (h / 2) := by simp [toJ, HE.out]
          rw [e]
          exact .int _
      · have ht2 : (h.tmod 2 == 0) = false := beq_eq_false_iff_ne.2 (tmod_odd h he)
        have hq := run_quo h (by omega) (by have := HH.out; unfold HalfOk at this; omega)
        have HE := Lib.hid he
        clear he
        go_enter Tryz.func17, Tryz.ntmps17
        go_wp2
        go_ret2
        refine ⟨_, rfl, ?_, (Old.refl w).alloc _⟩
        have e : toJ (.mk 3 h t l ks vs) = .flt h := by simp [toJ, HE.out]
        rw [e]
        exact .flt _
    · clear hk tk lk kk
      go_enter Tryz.func17, Tryz.ntmps17
      go_wp2
      go_ret2
      exact ⟨_, rfl, .str t, (Old.refl w).alloc _⟩
    · clear hk tk lk kk
      have HL : KVs (w.alloc (.cells #[.int .i64 5, .int .i64 h, .string t, .slice A1 n1 m1, .slice A2 n2 m2, .slice A3 n3 m3] 26)) ok l (.slice A1 n1 m1) := by
        obtain ⟨v1, v2, v3, C1, C3, hcs, s1, r1, s2, s3, r3⟩ := HKV.out.form
        simp only [List.cons.injEq, and_true, true_and] at hcs
        obtain ⟨rfl, rfl, rfl⟩ := hcs
        exact ⟨C1, s1.old ((Old.refl w).alloc _), fun i hi => (r1 i hi).old ((Old.refl w).alloc _)⟩
      have HL2 := Lib.hid HL
      clear HL
      go_enter Tryz.func17, Tryz.ntmps17
      go_wp2_with (go_at_call 31; refine (listToGo_any l hl IL.out _ _ _ HL2.out).mono ?_; rintro e w2 ⟨y, rfl, hy, ho⟩)
      go_ret2
      obtain ⟨X, s, r⟩ := hy
      refine ⟨_, rfl, ?_, ((Old.refl w).alloc _).trans ho⟩
      have e : toJ (.mk 5 h t l ks vs) = .arr (toJs l) := by simp [toJ]
      rw [e]
      have hm : ∀ k, (w.alloc (.cells #[.int .i64 5, .int .i64 h, .string t, .slice A1 n1 m1, .slice A2 n2 m2, .slice A3 n3 m3] 26)).heap.size ≤ k → w.heap.size ≤ k := fun k hk => by simp at hk; omega
      exact .arr _ _ X (s.mono fun k hk _ => hm k hk) fun i hi => (r i hi).mono fun k hk _ => hm k hk
    · clear hk tk lk kk
      have HM := Lib.hid (HKV.out.old ((Old.refl w).alloc (.cells #[.int .i64 6, .int .i64 h, .string t, .slice A1 n1 m1, .slice A2 n2 m2, .slice A3 n3 m3] 26)))
      have hkt' : ∀ s ∈ ks, s.size ≤ 9223372036854775807 := fun s hs => (hkt s hs).1
      go_enter Tryz.func17, Tryz.ntmps17
      go_wp2_with (go_at_call 32; refine (mapToGo_any 6 h t l ks vs hv kv hks hkt' IV.out _ _ _ _ _ _ _ _ _ _ _ HM.out).mono ?_; rintro e w2 ⟨b, rfl, hb, ⟨xs, hmv, hxl, hx⟩, ho⟩)
      go_ret2
      refine ⟨_, rfl, ?_, ((Old.refl w).alloc _).trans ho⟩
      have e : toJ (.mk 6 h t l ks vs) = .obj ks (toJs vs) := by simp [toJ]
      rw [e]
      have hm : ∀ k, (w.alloc (.cells #[.int .i64 6, .int .i64 h, .string t, .slice A1 n1 m1, .slice A2 n2 m2, .slice A3 n3 m3] 26)).heap.size ≤ k → w.heap.size ≤ k := fun k hk => by simp at hk; omega
      have hl2 : (toJs vs).length = vs.length := by rw [toJs_map, List.length_map]
      refine .obj _ _ b xs (hm b hb) hmv (by rw [hl2]; exact hxl) fun i hi => ?_
      rw [hl2] at hi
      rw [jth_eq, jth_map vs i hi]
      exact (hx i hi).mono fun k hk _ => hm k hk

end Go.Proofs.YthggnkmlnjlggaaGreatDoor
