/-
  Bytes appended to bytes: whatever their number.
  Conditions: none.
-/
import Derived.Test.YthggnkmlnjlggaaGreatDoorShift
import Derived.Deep.AppendSrc
namespace Go.Proofs.YthggnkmlnjlggaaGreatDoor
open Go.RowKit

/-- What an append takes from a list of bytes. -/
def TakenB (w : World) (x : Value) (m : Nat) (news : List Value) : Prop :=
  (m = 0 ∧ news = [] ∧ ∃ A c, x = .slice A 0 c ∧ (A = none → c = 0)) ∨ (0 < m ∧ ∃ ad c, x = .slice (some ad) m c ∧ news.length = m ∧ (∀ j u, news[j]? = some u → w.cell? (ad.add j) = some u) ∧ ∀ u ∈ news, u.oneCell' = true)
theorem DRow.taken {w : World} {g : Nat} {v : Value} {ds : List Nat} (h : DRow w g v ds) : TakenB w v ds.length (dcells ds) := by
  obtain ⟨A, c, rfl, hc, hn, hs⟩ := h
  rcases Nat.eq_zero_or_pos ds.length with h0 | h0
  · exact .inl ⟨h0, by rw [List.eq_nil_of_length_eq_zero h0]; rfl, A, c, by rw [h0], hn⟩
  · obtain ⟨b, o, cs, t, fz, rfl, ho, hb, hr⟩ := hs h0
    refine .inr ⟨h0, ⟨b, o, none⟩, c, rfl, by simp [dcells], fun j u hu => ?_, fun u hu => ?_⟩
    · have hj : j < ds.length := by
        have := (List.getElem?_eq_some_iff.1 hu).1
        simpa [dcells] using this
      have h2 := (hr j hj).2 0 (by omega)
      have hadd : (⟨b, o, none⟩ : Addr).add j = ⟨b, o + j, none⟩ := by unfold Addr.add; split <;> simp_all
      rw [hadd]
      simp [World.cell?, hb] at h2 ⊢
      rw [h2]
      simp only [dcells, List.getElem?_map, List.getElem?_eq_getElem hj, Option.map_some, Option.some.injEq] at hu
      rw [← hu]
      simp [List.getElem?_eq_getElem hj]
    · simp only [dcells, List.mem_map] at hu
      obtain ⟨d, _, rfl⟩ := hu
      rfl
theorem TakenB.old {w w' : World} {x : Value} {m : Nat} {news : List Value} (h : TakenB w x m news) (ho : Old w w') : TakenB w' x m news := by
  rcases h with h | ⟨hm, ad, c, hx, hl, hn, h1⟩
  · exact .inl h
  · exact .inr ⟨hm, ad, c, hx, hl, fun j u hu => ho.cell (hn j u hu), h1⟩
theorem run_joinB (w : World) (base : Nat) (i : TypeInfo) (hi : Tryz.prog.info? 5 = some i) (hz : i.zero = some (.int .u8 0)) (hsz : i.size = 1) (hby : i.bytes = 1)
    (ty : TypeId) (g0 n c0 : Nat) (xs : List Value) (hown : w.ownsRow base 5 1 (.slice (some ⟨g0, 0, none⟩) n c0) n xs) (x : Value) (m : Nat) (news : List Value) (hx : TakenB w x m news) (hnm : n + m ≤ 1048576) (hb : base ≤ w.heap.size) :
    ∃ g cap w', (Builtin.append_ #[75, 75] ty #[.slice (some ⟨g0, 0, none⟩) n c0, x]).run Tryz.prog w = .ok (.slice (some ⟨g, 0, none⟩) (n + m) cap) w' ∧
      w'.ownsRow base 5 1 (.slice (some ⟨g, 0, none⟩) (n + m) cap) (n + m) (xs ++ news) ∧ w.grownBy w' (some g0) ∧ (g = g0 ∨ w.heap.size ≤ g) := by
  rcases hx with ⟨rfl, rfl, A, c, rfl, hc⟩ | ⟨hm, ad, c, rfl, hl, hnews, h1⟩
  · have hsrc : Src Tryz.prog i.size 75 (.slice A 0 c) 0 [] w := by
      rcases A with _ | ad
      · exact Src.ofNil w Tryz.underlying75 c
      · exact Src.ofSlice w Tryz.underlying75 ad 0 c [] (by simp) (fun j u h => by simp at h) (fun u h => by cases h)
    have hroom := own_cap hown
    have := run_append_room_src (P := Tryz.prog) w 75 75 ty 5 i Tryz.underlying75 hi g0 0 n c0 (.slice A 0 c) 0 [] hsrc (by omega) (fun j hj => by simp at hj) (fun j hj => by simp at hj)
    refine ⟨g0, c0, w, this, by simpa using hown, ⟨rfl, rfl, rfl, Nat.le_refl _, fun _ _ _ => rfl⟩, .inl rfl⟩
  · obtain ⟨g, cap, w', h2, h3, h4, h5, _⟩ := run_append_lies (P := Tryz.prog) w 75 ty base 5 i _ 1 1 Tryz.underlying75 hi hz hsz hby rfl (by decide) _ n xs hown ad m c news (by omega) hnews h1 hm (by unfold maxLen; omega) (by omega) hb _ rfl
    refine ⟨g, cap, w', h2, h3, h4, ?_⟩
    rcases h5 with h5 | h5
    · left
      have : g0 = g := by simpa [Value.ownBlock] using h5
      exact this.symm
    · exact .inr (by omega)
/-- At a step of a drawn region. -/
theorem step_joinB {w : World} {ops : Array Oper} {o : Oper} {a : Act} {K : Act → World → Prop} {Q : Exit → Act → World → Prop} {E : Prop} (hgd : o.guard = none) (s x : Operand)
    (ho : o.op = .call { callee := .builtin .append, args := #[s, x], argTypes := #[75, 75] })
    (base : Nat) (i : TypeInfo) (hi : Tryz.prog.info? 5 = some i) (hz : i.zero = some (.int .u8 0)) (hsz : i.size = 1) (hby : i.bytes = 1)
    (g0 n c0 : Nat) (xs : List Value) (hs : a.eval s = .slice (some ⟨g0, 0, none⟩) n c0) (hown : w.ownsRow base 5 1 (.slice (some ⟨g0, 0, none⟩) n c0) n xs) (xv : Value) (hxv : a.eval x = xv) (m : Nat) (news : List Value) (hx : TakenB w xv m news) (hnm : n + m ≤ 1048576) (hb : base ≤ w.heap.size)
    (h : ∀ g cap w', w'.ownsRow base 5 1 (.slice (some ⟨g, 0, none⟩) (n + m) cap) (n + m) (xs ++ news) → w.grownBy w' (some g0) → (g = g0 ∨ w.heap.size ≤ g) → K (a.put o.dst (.slice (some ⟨g, 0, none⟩) (n + m) cap)) w') :
    if Region.wanted o (yielded ops a.tmps) = true then Oper.wp Tryz.prog o a w K Q else E := by
  have hw : Region.wanted o (yielded ops a.tmps) = true := by simp [Region.wanted, hgd]
  rw [if_pos hw]
  obtain ⟨g, cap, w', hr, h2, h3, h4⟩ := run_joinB w base i hi hz hsz hby o.type g0 n c0 xs hown xv m news hx hnm hb
  unfold Oper.wp execOp
  simp only [ho, resolve, invoke, builtin, Sem.run_bind, Sem.run_pure, Result.andThen_ok, List.map_toArray, List.map_cons, List.map_nil, hs, hxv, hr]
  exact h g cap w' h2 h3 h4
/-- Two may come up. -/
theorem AnyL.both {P : Program} {ops : Array Oper} {Q : Exit → Act → World → Prop} {md : Region.Mode} {S : Array Bool → World → Prop} {fuel : Nat} {l : Array Bool} {a : Act} {w : World} (i j : Nat) (hr : Region.ready md ops l = [i, j]) (hC : Closed md ops l)
    (h : ∀ o, ops[i]? = some o → ∀ K' : Act → World → Prop, Shut (∀ a w, S (l.setIfInBounds i true) w → (Closed md ops (l.setIfInBounds i true) → S (l.setIfInBounds i true) w → AnyL P md ops Q S fuel (l.setIfInBounds i true) a w) → K' a w) → if Region.wanted o (yielded ops a.tmps) = true then Oper.wp P o a w K' Q else K' (a.put o.dst undef) w)
    (h' : ∀ o, ops[j]? = some o → ∀ K' : Act → World → Prop, Shut (∀ a w, S (l.setIfInBounds j true) w → (Closed md ops (l.setIfInBounds j true) → S (l.setIfInBounds j true) w → AnyL P md ops Q S fuel (l.setIfInBounds j true) a w) → K' a w) → if Region.wanted o (yielded ops a.tmps) = true then Oper.wp P o a w K' Q else K' (a.put o.dst undef) w) :
    AnyL P md ops Q S (fuel + 1) l a w := by
  have hi : i ∈ Region.ready md ops l := by rw [hr]; simp
  have hj : j ∈ Region.ready md ops l := by rw [hr]; simp
  obtain ⟨_, o, ho, _⟩ := mem_ready.1 hi
  obtain ⟨_, o', ho', _⟩ := mem_ready.1 hj
  exact AnyL.two o o' hr ho ho' hC (h o ho) (h' o' ho')
end Go.Proofs.YthggnkmlnjlggaaGreatDoor
