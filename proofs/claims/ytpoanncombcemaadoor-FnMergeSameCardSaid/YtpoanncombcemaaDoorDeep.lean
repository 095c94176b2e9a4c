/-
  A map that is filled out of two others, key by key: plain words.
  Conditions: none.
-/
import Derived.Test.YtpoanncombcemaaDoorFrom7
import Derived.Test.YtpoanncombcemaaDoorRev
import Derived.Lib.SlMapMerge
namespace Go.Proofs.YtpoanncombcemaaDoor
open Go.RowKit Go.Maps

def keyL (ks : List ByteArray) (i : Nat) : Lit := .string (kth ks i).data.toList
theorem keyL_key (ks : List ByteArray) (i : Nat) : WideAt.IsKeyLit (keyL ks i) := trivial
theorem has_mapD {ks : List ByteArray} {xs : List Value} (hl : ks.length = xs.length) (k : Lit) : has (mapD ks xs) k = true ↔ ∃ i, i < ks.length ∧ k = keyL ks i := by
  show (List.zipWith entry ks xs).any (fun p => p.1.sameKey k) = true ↔ _
  rw [List.any_eq_true]
  constructor
  · rintro ⟨p, hp, hs⟩
    rw [List.mem_iff_getElem?] at hp
    obtain ⟨i, hi⟩ := hp
    have hlt := (List.getElem?_eq_some_iff.1 hi).1
    rw [List.length_zipWith] at hlt
    have h1 : i < ks.length := by omega
    have h2 : i < xs.length := by omega
    rw [List.getElem?_zipWith, List.getElem?_eq_getElem h1, List.getElem?_eq_getElem h2] at hi
    simp only [Option.some.injEq] at hi
    subst hi
    refine ⟨i, h1, ?_⟩
    rw [← WideAt.sameKey_eq hs]
    simp [keyL, entry, kth, h1]
  · rintro ⟨i, hi, rfl⟩
    have h2 : i < xs.length := by omega
    refine ⟨entry (kth ks i) (xs.getD i .nilIface), ?_, WideAt.sameKey_self trivial⟩
    rw [List.mem_iff_getElem?]
    exact ⟨i, by rw [List.getElem?_zipWith, List.getElem?_eq_getElem hi, List.getElem?_eq_getElem h2]; simp [kth, hi, h2]⟩
theorem keyL_inj {ks : List ByteArray} (h : Rising ks) {i j : Nat} (hi : i < ks.length) (hj : j < ks.length) (e : keyL ks i = keyL ks j) : i = j := by
  rcases Nat.lt_trichotomy i j with hlt | he | hlt
  · have := (List.pairwise_iff_getElem.1 h) i j hi hj hlt
    simp only [keyL, Lit.string.injEq, kth] at e
    simp only [List.getD_eq_getElem?_getD, List.getElem?_eq_getElem hi, List.getElem?_eq_getElem hj, Option.getD_some] at e
    rw [e, keyLt_irrefl] at this
    cases this
  · exact he
  · have := (List.pairwise_iff_getElem.1 h) j i hj hi hlt
    simp only [keyL, Lit.string.injEq, kth] at e
    simp only [List.getD_eq_getElem?_getD, List.getElem?_eq_getElem hi, List.getElem?_eq_getElem hj, Option.getD_some] at e
    rw [e, keyLt_irrefl] at this
    cases this
theorem canon_mapD {ks : List ByteArray} {xs : List Value} (h : Rising ks) : Canon (mapD ks xs) := by
  refine ⟨List.zipWith entry ks xs, rfl, ?_, fun p hp => ?_⟩
  · refine List.pairwise_iff_getElem.2 fun i j hi hj hij => ?_
    simp only [List.length_zipWith] at hi hj
    simp only [List.getElem_zipWith, entry]
    have := (List.pairwise_iff_getElem.1 h) i j (by omega) (by omega) hij
    show bytesBefore _ _ = true
    rw [before_eq]
    exact this
  · obtain ⟨k, _, x, _, rfl⟩ := mem_zip hp
    trivial
theorem mapD_map (ks : List ByteArray) (xs : List Value) : IsMap (mapD ks xs) := ⟨_, rfl⟩

/-- The new map, behind some rounds. -/
structure Filling (ok : Nat → Prop) (wr : World) (ks : List ByteArray) (vs : List J) (Dl Dr Dout : DataW Value) (left : Lit → Bool) : Prop where
  keys : ∀ k, has Dout k = (has Dl k || (has Dr k && !left k))
  each : ∀ i, i < ks.length → has Dout (keyL ks i) = true → ∃ v, (∀ z, Dout.atKey (keyL ks i) z = .held v) ∧ KJ wr ok (jth vs i) v

/-- One of the two maps: the whole one, or one without keys. -/
def Half (ok : Nat → Prop) (w : World) (ks : List ByteArray) (vs : List J) (b : Nat) (D : DataW Value) (full : Bool) : Prop :=
  ∃ xs, (full = true ∧ D = mapD ks xs ∧ ks.length = xs.length ∧ ks.length ≤ 400 ∧ ∀ i, i < ks.length → KJ w ok (jth vs i) (xs.getD i .nilIface)) ∧ MapV w b ks xs ∨ full = false ∧ D = mapD [] [] ∧ MapV w b [] []
theorem Half.old {ok : Nat → Prop} {w w' : World} {ks : List ByteArray} {vs : List J} {b : Nat} {D : DataW Value} {full : Bool} (h : Half ok w ks vs b D full) (ho : Old w w') : Half ok w' ks vs b D full := by
  obtain ⟨xs, ⟨⟨h1, h2, h3, h4, h5⟩, hm⟩ | ⟨h1, h2, hm⟩⟩ := h
  · exact ⟨xs, .inl ⟨⟨h1, h2, h3, h4, fun i hi => (h5 i hi).old ho⟩, hm.step (ho.block b hm.lt trivial)⟩⟩
  · exact ⟨xs, .inr ⟨h1, h2, hm.step (ho.block b hm.lt trivial)⟩⟩
theorem Half.mono {ok ok' : Nat → Prop} {w : World} {ks : List ByteArray} {vs : List J} {b : Nat} {D : DataW Value} {full : Bool} (h : Half ok w ks vs b D full) (hm : ∀ k, k < w.heap.size → ok k → ok' k) : Half ok' w ks vs b D full := by
  obtain ⟨xs, ⟨⟨h1, h2, h3, h4, h5⟩, hx⟩ | h⟩ := h
  · exact ⟨xs, .inl ⟨⟨h1, h2, h3, h4, fun i hi => (h5 i hi).mono fun k ho hk => hm k hk ho⟩, hx⟩⟩
  · exact ⟨xs, .inr h⟩
theorem Half.own {ok : Nat → Prop} {w : World} {ks : List ByteArray} {vs : List J} {b : Nat} {D : DataW Value} {full : Bool} (h : Half ok w ks vs b D full) : ∃ n, w.ownsMap Tryd.prog 9 held b n D ∧ size D ≤ 400 ∧ IsMap D := by
  obtain ⟨xs, ⟨⟨h1, rfl, h3, h4, h5⟩, n, hm, hn⟩ | ⟨h1, rfl, n, hm, hn⟩⟩ := h
  · exact ⟨n, hm, by rw [size_mapD _ _ h3]; exact h4, mapD_map _ _⟩
  · exact ⟨n, hm, by simp [size_mapD], mapD_map _ _⟩
theorem Half.has {ok : Nat → Prop} {w : World} {ks : List ByteArray} {vs : List J} {b : Nat} {D : DataW Value} {full : Bool} (h : Half ok w ks vs b D full) (k : Lit) : Maps.has D k = true ↔ full = true ∧ ∃ i, i < ks.length ∧ k = keyL ks i := by
  obtain ⟨xs, ⟨⟨h1, rfl, h3, h4, h5⟩, _⟩ | ⟨h1, rfl, _⟩⟩ := h
  · rw [has_mapD h3, h1]; simp
  · rw [has_mapD (by rfl), h1]; simp
theorem Half.at_ {ok : Nat → Prop} {w : World} {ks : List ByteArray} {vs : List J} {b : Nat} {D : DataW Value} {full : Bool} (h : Half ok w ks vs b D full) (hks : Rising ks) (i : Nat) (hi : i < ks.length) (hf : full = true) : ∃ v, (∀ z, D.atKey (keyL ks i) z = .held v) ∧ KJ w ok (jth vs i) v := by
  obtain ⟨xs, ⟨⟨h1, rfl, h3, h4, h5⟩, _⟩ | ⟨h1, rfl, _⟩⟩ := h
  · exact ⟨_, fun z => at_mapD hks h3 i hi z, h5 i hi⟩
  · rw [hf] at h1; cases h1

theorem Filling.start {ok : Nat → Prop} {w wr : World} {ks : List ByteArray} {vs : List J} {bl : Nat} {Dl Dr : DataW Value} {fl : Bool} (hks : Rising ks) (h : Half ok w ks vs bl Dl fl) (ho : Old w wr) : Filling ok wr ks vs Dl Dr Dl (Maps.has Dr) := by
  refine ⟨fun k => by cases Maps.has Dl k <;> cases Maps.has Dr k <;> rfl, fun i hi hh => ?_⟩
  obtain ⟨hf, _⟩ := (h.has _).1 hh
  obtain ⟨v, h1, h2⟩ := h.at_ hks i hi hf
  exact ⟨v, h1, h2.old ho⟩
theorem Filling.step {ok : Nat → Prop} {w wr : World} {ks : List ByteArray} {vs : List J} {Dl Dr Dout : DataW Value} {left : Lit → Bool} (h : Filling ok w ks vs Dl Dr Dout left) (hks : Rising ks) (hm : IsMap Dout) (i : Nat) (hi : i < ks.length) (hr : Maps.has Dr (keyL ks i) = true) (v : Value) (hv : KJ wr ok (jth vs i) v)
    (hold : ∀ j x, KJ w ok j x → KJ wr ok j x) : Filling ok wr ks vs Dl Dr (Dout.put (keyL ks i) (.held v)) (fun z => left z && !z.sameKey (keyL ks i)) := by
  refine ⟨fun k => ?_, fun j hj hh => ?_⟩
  · by_cases e : k = keyL ks i
    · subst e
      rw [has_put_same hm (keyL_key ks i), hr, WideAt.sameKey_self (keyL_key ks i)]
      simp
    · rw [has_put_other e, h.keys k]
      have : k.sameKey (keyL ks i) = false := by
        rcases hx : k.sameKey (keyL ks i) with _ | _
        · rfl
        · exact absurd (WideAt.sameKey_eq hx) e
      simp [this]
  · by_cases e : j = i
    · subst e
      exact ⟨v, fun z => atKey_put_same hm (keyL_key ks j) _ z, hv⟩
    · have hne : keyL ks j ≠ keyL ks i := fun he => e (keyL_inj hks hj hi he)
      rw [has_put_other hne] at hh
      obtain ⟨u, h1, h2⟩ := h.each j hj hh
      exact ⟨u, fun z => by rw [atKey_put_other hne]; exact h1 z, hold _ _ h2⟩
/-- All has come. -/
theorem Filling.done {ok : Nat → Prop} {wr : World} {ks : List ByteArray} {vs : List J} {Dl Dr Dout : DataW Value} {left : Lit → Bool} (h : Filling ok wr ks vs Dl Dr Dout left) (hks : Rising ks) (hc : Canon Dout) (hl : ∀ k, left k = false) (hall : ∀ k, (Maps.has Dl k || Maps.has Dr k) = true ↔ ∃ i, i < ks.length ∧ k = keyL ks i) :
    ∃ xs : List Value, ks.length = xs.length ∧ Dout = mapD ks xs ∧ ∀ i, i < ks.length → KJ wr ok (jth vs i) (xs.getD i .nilIface) := by
  have hkey : ∀ k, has Dout k = true ↔ ∃ i, i < ks.length ∧ k = keyL ks i := fun k => by rw [h.keys k, hl k, ← hall k]; simp
  obtain ⟨F, hF⟩ := Deep.choose_lt (α := Value) (n := ks.length) (p := fun i v => (∀ z, Dout.atKey (keyL ks i) z = .held v) ∧ KJ wr ok (jth vs i) v) (fun i hi => h.each i hi ((hkey _).2 ⟨i, hi, rfl⟩))
  have hlen : ks.length = ((List.range ks.length).map F).length := by simp
  have hat : ∀ i, i < ks.length → ((List.range ks.length).map F).getD i .nilIface = F i := fun i hi => by simp [hi]
  refine ⟨(List.range ks.length).map F, hlen, ?_, fun i hi => by rw [hat i hi]; exact (hF i hi).2⟩
  refine ext hc (canon_mapD hks) (fun k => ?_) fun k z hh => ?_
  · rcases hx : has (mapD ks ((List.range ks.length).map F)) k with _ | _
    · rcases hy : has Dout k with _ | _
      · rfl
      · have := (has_mapD hlen k).2 ((hkey k).1 hy)
        rw [hx] at this
        cases this
    · exact (hkey k).2 ((has_mapD hlen k).1 hx)
  · obtain ⟨i, hi, rfl⟩ := (hkey k).1 hh
    rw [(hF i hi).1 z]
    have := at_mapD hks hlen i hi z
    rw [hat i hi] at this
    exact this.symm
/-- An empty map into which one is copied reads as that one. -/
theorem merge_empty {w : World} {b n : Nat} {D : DataW Value} (h : w.ownsMap Tryd.prog 9 held b n D) (hm : IsMap D) : Lib.mergeD (.map []) D = D := by
  have K := Maps.string_keyed Tryd.underlying9
  refine (merged_eq K.one (Dout := D) (Dd := .map []) (left := fun _ => false) ⟨fun k => by simp [Maps.has], fun k z => ?_⟩ (fun _ => rfl) (h.canon K) ⟨[], rfl, List.Pairwise.nil, fun p hp => by cases hp⟩ (h.canonK K)).symm
  rcases hx : Maps.has D k with _ | _
  · simp only [Bool.false_and, Bool.false_eq_true, if_false]
    obtain ⟨es, rfl⟩ := hm
    have hn : es.find? (fun p => p.1.sameKey k) = none := List.find?_eq_none.2 fun p hp hs => by
      have : Maps.has (.map es) k = true := List.any_eq_true.2 ⟨p, hp, hs⟩
      rw [hx] at this
      cases this
    simp [DataW.atKey, hn]
  · simp
theorem key_inv {x : Value} {l : List UInt8} (h : keyOf Tryd.prog 9 x = some (.string l)) : ∃ s : ByteArray, x = .string s ∧ s.data.toList = l := by
  cases x <;> simp [keyOf, Tryd.underlying9, mapKey] at h
  exact ⟨_, rfl, h.2⟩
/-- What an element is, where it is asked whether it is a map. -/
theorem map_or {w : World} {ok : Nat → Prop} {j : J} {x : Value} (h : KJ w ok j x) : (∀ ks vs, j ≠ .obj ks vs) ∧ (∀ W : World, (Instr.typeAssert x 20 58 true).run Tryd.prog W = .ok (.tuple #[.map none, .bool false]) W) ∨
    ∃ ks vs b xs, j = .obj ks vs ∧ x = .iface 58 (.map (some b)) ∧ MapV w b ks xs ∧ xs.length = vs.length ∧ ok b ∧ ∀ i (hi : i < vs.length), KJ w ok vs[i] (xs.getD i .nilIface) := by
  cases h with
  | nil => exact .inl ⟨fun _ _ => by simp, fun W => by kernel_rfl⟩
  | bool b => exact .inl ⟨fun _ _ => by simp, fun W => by kernel_rfl⟩
  | int n => exact .inl ⟨fun _ _ => by simp, fun W => by kernel_rfl⟩
  | flt h => exact .inl ⟨fun _ _ => by simp, fun W => by kernel_rfl⟩
  | str s => exact .inl ⟨fun _ _ => by simp, fun W => by kernel_rfl⟩
  | arr l v X s r => exact .inl ⟨fun _ _ => by simp, fun W => by kernel_rfl⟩
  | obj ks vs b xs hb hm hx r => exact .inr ⟨ks, vs, b, xs, rfl, rfl, hm, hx, hb, r⟩
theorem as_map (v : Value) (w : World) : (Instr.typeAssert (.iface 58 v) 20 58 true).run Tryd.prog w = .ok (.tuple #[v, .bool true]) w := by kernel_rfl
theorem toJ_obj {v : V} {ks : List ByteArray} {vs : List J} (h : toJ v = .obj ks vs) (hg : Good v) : v.kind = 6 ∧ ks = v.keys ∧ vs = toJs v.vals := by
  cases hg with
  | mk k hh t l ks' vs' k0 k6 hk tk lk kk kv hh' ht hl hv hks hkt gl gv =>
    rcases (show k = 0 ∨ k = 1 ∨ k = 2 ∨ k = 3 ∨ k = 4 ∨ k = 5 ∨ k = 6 by omega) with rfl | rfl | rfl | rfl | rfl | rfl | rfl
    · simp [toJ] at h
    · simp [toJ] at h
    · simp [toJ] at h
    · by_cases he : hh % 2 = 0 <;> simp [toJ, he] at h
    · simp [toJ] at h
    · simp [toJ] at h
    · simp only [toJ] at h
      simp at h
      exact ⟨rfl, h.1.symm, h.2.symm⟩
end Go.Proofs.YtpoanncombcemaaDoor
