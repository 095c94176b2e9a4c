/-
  Lists of values: made into a value, looked at, joined.
  Conditions: none.
-/
import Derived.Test.YtpoanncombcemaaDoorRev
import Derived.Test.YtpoanncombcemaaDoorFit3
import Derived.Deep.AppendSrc
import Derived.Deep.DeepMust
namespace Go.Proofs.YtpoanncombcemaaDoor
open Go.RowKit

/-- The cells of n elements, one behind the other. -/
def flat (C : Nat → List Value) : Nat → List Value
  | 0 => []
  | n + 1 => flat C n ++ C n
theorem flat_length {C : Nat → List Value} {s : Nat} : ∀ n, (∀ i, i < n → (C i).length = s) → (flat C n).length = n * s
  | 0, _ => by simp [flat]
  | n + 1, h => by
    rw [flat, List.length_append, flat_length n fun i hi => h i (by omega), h n (by omega), Nat.succ_mul]
theorem flat_at {C : Nat → List Value} {s : Nat} : ∀ n, (∀ i, i < n → (C i).length = s) → ∀ i, i < n → ∀ j, j < s → (flat C n)[i * s + j]? = (C i)[j]?
  | 0, _, i, hi, _, _ => absurd hi (by omega)
  | n + 1, h, i, hi, j, hj => by
    have hl := flat_length n fun i hi => h i (by omega)
    rw [flat]
    by_cases he : i = n
    · subst he
      rw [List.getElem?_append_right (by rw [hl]; omega), hl, Nat.add_sub_cancel_left]
    · have hlt : i * s + j < n * s := by
        calc i * s + j < i * s + s := by omega
          _ = (i + 1) * s := by rw [Nat.succ_mul]
          _ ≤ n * s := Nat.mul_le_mul_right _ (by omega)
      rw [List.getElem?_append_left (by rw [hl]; exact hlt)]
      exact flat_at n (fun i hi => h i (by omega)) i (by omega) j hj
theorem flat_mem {C : Nat → List Value} {u : Value} : ∀ n, u ∈ flat C n → ∃ i, i < n ∧ u ∈ C i
  | 0, h => by cases h
  | n + 1, h => by
    rcases List.mem_append.1 h with h | h
    · obtain ⟨i, hi, hu⟩ := flat_mem n h
      exact ⟨i, by omega, hu⟩
    · exact ⟨n, by omega, h⟩

/-- What an append takes from a list of values. -/
def Taken (w : World) (x : Value) (m : Nat) (news : List Value) : Prop :=
  (m = 0 ∧ news = [] ∧ ∃ A c, x = .slice A 0 c ∧ (A = none → c = 0)) ∨ (0 < m ∧ ∃ ad c, x = .slice (some ad) m c ∧ news.length = m * 6 ∧ (∀ j u, news[j]? = some u → w.cell? (ad.add j) = some u) ∧ ∀ u ∈ news, u.oneCell' = true)
theorem KVs.taken {w : World} {ok : Nat → Prop} {l : List V} {x : Value} (h : KVs w ok l x) : ∃ C, (∀ i (hi : i < l.length), KV w ok l[i] (C i)) ∧ Taken w x l.length (flat C l.length) := by
  obtain ⟨C, s, r⟩ := h
  refine ⟨C, r, ?_⟩
  have hlen : ∀ i, i < l.length → (C i).length = 6 := fun i hi => (r i hi).length
  obtain ⟨A, c, rfl, hc, hn, hs⟩ := s
  rcases Nat.eq_zero_or_pos l.length with h0 | h0
  · exact .inl ⟨h0, by rw [h0]; rfl, A, c, by rw [h0], hn⟩
  · obtain ⟨b, o, cs, t, fz, rfl, ho, hb, hr⟩ := hs h0
    refine .inr ⟨h0, ⟨b, o, none⟩, c, rfl, flat_length _ hlen, fun j u hu => ?_, fun u hu => ?_⟩
    · have hj : j < l.length * 6 := by
        have := (List.getElem?_eq_some_iff.1 hu).1
        rwa [flat_length _ hlen] at this
      have h1 := flat_at _ hlen (j / 6) (by omega) (j % 6) (by omega)
      rw [show j / 6 * 6 + j % 6 = j by omega, hu] at h1
      have h2 := (hr (j / 6) (by omega)).2 (j % 6) (by omega)
      rw [show o + j / 6 * 6 + j % 6 = o + j by omega, ← h1] at h2
      have hadd : (⟨b, o, none⟩ : Addr).add j = ⟨b, o + j, none⟩ := by unfold Addr.add; split <;> simp_all
      rw [hadd]
      simpa [World.cell?, hb] using h2
    · obtain ⟨i, hi, hu⟩ := flat_mem _ hu
      exact one_six (r i hi) u hu

theorem Taken.old {w w' : World} {x : Value} {m : Nat} {news : List Value} (h : Taken w x m news) (ho : Old w w') : Taken w' x m news := by
  rcases h with h | ⟨hm, ad, c, hx, hl, hn, h1⟩
  · exact .inl h
  · exact .inr ⟨hm, ad, c, hx, hl, fun j u hu => ho.cell (hn j u hu), h1⟩

/-- An append of a list of values, whatever its length, to a row of the call's own that is not nil. -/
theorem run_join (w : World) (base : Nat) (i : TypeInfo) (hi : Tryd.prog.info? 26 = some i) (hz : i.zero = some (.agg #[.int .i64 0, .int .i64 0, .string ⟨#[]⟩, .slice none 0 0, .slice none 0 0, .slice none 0 0])) (hsz : i.size = 6) (hby : i.bytes = 104)
    (ty : TypeId) (g0 n c0 : Nat) (xs : List Value) (hown : w.ownsRow base 26 6 (.slice (some ⟨g0, 0, none⟩) n c0) n xs) (x : Value) (m : Nat) (news : List Value) (hx : Taken w x m news) (hnm : n + m ≤ 1048576) (hb : base ≤ w.heap.size) :
    ∃ g cap w', (Builtin.append_ #[23, 23] ty #[.slice (some ⟨g0, 0, none⟩) n c0, x]).run Tryd.prog w = .ok (.slice (some ⟨g, 0, none⟩) (n + m) cap) w' ∧
      w'.ownsRow base 26 6 (.slice (some ⟨g, 0, none⟩) (n + m) cap) (n + m) (xs ++ news) ∧ w.grownBy w' (some g0) := by
  rcases hx with ⟨rfl, rfl, A, c, rfl, hc⟩ | ⟨hm, ad, c, rfl, hl, hnews, h1⟩
  · have hsrc : Src Tryd.prog i.size 23 (.slice A 0 c) 0 [] w := by
      rcases A with _ | ad
      · exact Src.ofNil w Tryd.underlying23 c
      · exact Src.ofSlice w Tryd.underlying23 ad 0 c [] (by simp) (fun j u h => by simp at h) (fun u h => by cases h)
    have hroom := own_cap hown
    have := run_append_room_src (P := Tryd.prog) w 23 23 ty 26 i Tryd.underlying23 hi g0 0 n c0 (.slice A 0 c) 0 [] hsrc (by omega) (fun j hj => by simp at hj) (fun j hj => by simp at hj)
    refine ⟨g0, c0, w, this, by simpa using hown, ⟨rfl, rfl, rfl, Nat.le_refl _, fun _ _ _ => rfl⟩⟩
  · obtain ⟨g, cap, w', h2, h3, h4, _, _⟩ := run_append_lies (P := Tryd.prog) w 23 ty base 26 i _ 6 104 Tryd.underlying23 hi hz hsz hby rfl (by decide) _ n xs hown ad m c news hl hnews h1 hm (by unfold maxLen; omega) (by omega) hb _ rfl
    exact ⟨g, cap, w', h2, h3, h4⟩
theorem wpList_join {ops : Array Oper} {rest : List Oper} {o : Oper} {a : Act} {Q : Exit → Act → World → Prop} (w : World) (hgd : o.guard = none) (s x : Operand)
    (ho : o.op = .call { callee := .builtin .append, args := #[s, x], argTypes := #[23, 23] })
    (base : Nat) (i : TypeInfo) (hi : Tryd.prog.info? 26 = some i) (hz : i.zero = some (.agg #[.int .i64 0, .int .i64 0, .string ⟨#[]⟩, .slice none 0 0, .slice none 0 0, .slice none 0 0])) (hsz : i.size = 6) (hby : i.bytes = 104)
    (g0 n c0 : Nat) (xs : List Value) (hs : a.eval s = .slice (some ⟨g0, 0, none⟩) n c0) (hown : w.ownsRow base 26 6 (.slice (some ⟨g0, 0, none⟩) n c0) n xs) (xv : Value) (hxv : a.eval x = xv) (m : Nat) (news : List Value) (hx : Taken w xv m news) (hnm : n + m ≤ 1048576) (hb : base ≤ w.heap.size)
    (h : ∀ g cap w', w'.ownsRow base 26 6 (.slice (some ⟨g, 0, none⟩) (n + m) cap) (n + m) (xs ++ news) → w.grownBy w' (some g0) → wpList Tryd.prog ops Q rest (a.put o.dst (.slice (some ⟨g, 0, none⟩) (n + m) cap)) w') : wpList Tryd.prog ops Q (o :: rest) a w :=
  wpList_plain hgd fun _ hK => by
    obtain ⟨g, cap, w', hr, h2, h3⟩ := run_join w base i hi hz hsz hby o.type g0 n c0 xs hown xv m news hx hnm hb
    unfold Oper.wp execOp
    simp only [ho, resolve, invoke, builtin, Sem.run_bind, Sem.run_pure, Result.andThen_ok, List.map_toArray, List.map_cons, List.map_nil, hs, hxv, hr]
    exact hK _ _ (h g cap w' h2 h3)

theorem KVs.join {w w' : World} {ok : Nat → Prop} {base : Nat} {la lb : List V} {Ca Cb : Nat → List Value} {v : Value} (ha : ∀ i (hi : i < la.length), KV w ok la[i] (Ca i)) (hb : ∀ i (hi : i < lb.length), KV w ok lb[i] (Cb i)) (ho : Old w w')
    (h : w'.ownsRow base 26 6 v (la.length + lb.length) (flat Ca la.length ++ flat Cb lb.length)) : KVs w' (fun _ => True) (la ++ lb) v := by
  have hla : ∀ i, i < la.length → (Ca i).length = 6 := fun i hi => (ha i hi).length
  have hlb : ∀ i, i < lb.length → (Cb i).length = 6 := fun i hi => (hb i hi).length
  have hfa := flat_length _ hla
  have key : ∀ i, i < la.length + lb.length → (if i < la.length then Ca i else Cb (i - la.length)).length = 6 ∧ ∀ j, j < 6 → (flat Ca la.length ++ flat Cb lb.length)[i * 6 + j]? = (if i < la.length then Ca i else Cb (i - la.length))[j]? := by
    intro i hi
    by_cases hlt : i < la.length
    · simp only [hlt, if_true]
      refine ⟨hla i hlt, fun j hj => ?_⟩
      rw [List.getElem?_append_left (by omega)]
      exact flat_at _ hla i hlt j hj
    · simp only [hlt, if_false]
      refine ⟨hlb _ (by omega), fun j hj => ?_⟩
      rw [List.getElem?_append_right (by omega), hfa, show i * 6 + j - la.length * 6 = (i - la.length) * 6 + j by omega]
      exact flat_at _ hlb _ (by omega) j hj
  refine ⟨fun i => if i < la.length then Ca i else Cb (i - la.length), ?_, fun i hi => ?_⟩
  · rw [List.length_append]
    exact SliceV.of_own h (fun _ _ => trivial) key
  · by_cases hlt : i < la.length
    · simp only [hlt, if_true]
      rw [List.getElem_append_left hlt]
      exact ((ha i hlt).old ho).mono fun _ _ _ => trivial
    · simp only [hlt, if_false]
      rw [List.getElem_append_right (by omega)]
      rw [List.length_append] at hi
      exact ((hb _ (by omega)).old ho).mono fun _ _ _ => trivial

def ListAns (w : World) (l : List V) (e : Ending) (w' : World) : Prop := ∃ v, e = .returned v ∧ KVs w' (fun _ => True) l v ∧ Old w w'
set_option maxHeartbeats 1000000 in
theorem joined_any {la lb : List V} (w : World) (ok : Nat → Prop) (va vb : Value) (ha : KVs w ok la va) (hb : KVs w ok lb vb) (hn : la.length + lb.length ≤ 1048576) : Calls Tryd.prog 17 #[va, vb] w (ListAns w (la ++ lb)) := by
  obtain ⟨iv, hi, hz0, hz1, hz2⟩ := info_parts Tryd.infoVal
  have HI := Lib.hid hi
  have HZ0 := Lib.hid hz0
  have HZ1 := Lib.hid hz1
  have HZ2 := Lib.hid hz2
  have HA := Lib.hid ha
  have HB := Lib.hid hb
  have HN := Lib.hid hn
  clear hi hz0 hz1 hz2 ha hb hn
  go_enter Tryd.func17, Tryd.ntmps17
  obtain ⟨Ca, hca, hta⟩ := HA.out.taken
  obtain ⟨Cb, hcb, htb⟩ := HB.out.taken
  have HCA := Lib.hid hca
  have HCB := Lib.hid hcb
  have HTA := Lib.hid hta
  have HTB := Lib.hid htb
  clear hca hcb hta htb
  go_wp2_with (first
    | (at_builtin; refine wpList_join _ rfl (.tmp 5) (.tmp 6) rfl w.heap.size iv HI.out HZ0.out HZ1.out HZ2.out w.heap.size 0 0 [] rfl (World.ownsRow_made w #[] 0 (Nat.le_refl _) (by decide) rfl) _ rfl la.length _ (HTA.out.old ((Old.refl w).alloc _)) (by have := HN.out; omega) (by simp) ?_; intro g c w1 hown hg; have HO1 := Lib.hid (((Old.refl w).alloc (.cells #[] 26)).grown hg (fun k hk => by cases hk; exact Nat.le_refl _)); rw [Nat.zero_add, List.nil_append] at hown; have HW1 := Lib.hid hown; clear hown hg)
    | (at_builtin; refine wpList_join _ rfl (.tmp 7) (.tmp 8) rfl w.heap.size iv HI.out HZ0.out HZ1.out HZ2.out g la.length c _ rfl HW1.out _ rfl lb.length _ (HTB.out.old HO1.out) (by have := HN.out; omega) HO1.out.size ?_; intro g' c' w2 hown2 hg2; have HG2 := Lib.hid hg2; have HW2 := Lib.hid hown2; clear hown2 hg2))
  go_ret
  have hlt := (HW1.out.lt g rfl).1
  have ho2 : Old w w2 := HO1.out.grown HG2.out (fun k hk => by cases hk; exact hlt)
  have hw := HW2.out
  exact ⟨_, rfl, KVs.join HCA.out HCB.out ho2 hw, ho2⟩

end Go.Proofs.YtpoanncombcemaaDoor
