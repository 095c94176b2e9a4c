/-
  What the program's row is of a right value.
  Conditions: the value is right.
-/
import Derived.Test.YthggnkmlnjlggaaGreatDoorDoor5
namespace Go.Proofs.YthggnkmlnjlggaaGreatDoor
open Go.RowKit

theorem ntext_even {h : Int} (he : h % 2 = 0) : istr (h / 2) = ntext h := by
  unfold istr ntext ptext
  have e1 : h.natAbs % 2 = 0 := by omega
  have e2 : (h / 2).natAbs = h.natAbs / 2 := by omega
  rw [if_pos e1, e2]
  by_cases hn : h < 0
  · rw [if_pos hn, if_pos (by omega)]
  · rw [if_neg hn, if_neg (by omega)]
    exact ByteArray.empty_append.symm
theorem ntext_odd {h : Int} (ho : h % 2 ≠ 0) : fstr h = ntext h := by
  unfold fstr ntext ptext
  rw [if_neg (show ¬ h.natAbs % 2 = 0 by omega)]
  rfl
theorem cell_toJ {v : V} (hr : Right v) (hk : v.kind ≤ 4) : jText (toJ v) = cellT v := by
  obtain ⟨hg, _⟩ := hr
  cases hg with
  | mk k h t l ks vs k0 k6 hk' tk lk kk kv hh ht hl hv hks hkt gl gv =>
    simp only [V.kind] at hk
    unfold cellT bareT plainT
    simp only [V.kind, V.half, V.text]
    rcases (show k = 0 ∨ k = 1 ∨ k = 2 ∨ k = 3 ∨ k = 4 by omega) with rfl | rfl | rfl | rfl | rfl
    · simp [toJ, jText, nilS]
    · simp [toJ, jText]
    · simp [toJ, jText]
    · by_cases he : h % 2 = 0
      · simp [toJ, jText, he, ntext_even he]
      · simp [toJ, jText, he, ntext_odd he]
    · simp [toJ, jText]
theorem plain_toJ {v : V} (hr : Right v) : isPlain (toJ v) = decide (v.kind ≤ 4) := by
  obtain ⟨hg, _⟩ := hr
  cases hg with
  | mk k h t l ks vs k0 k6 hk' tk lk kk kv hh ht hl hv hks hkt gl gv =>
    simp only [V.kind]
    rcases (show k = 0 ∨ k = 1 ∨ k = 2 ∨ k = 3 ∨ k = 4 ∨ k = 5 ∨ k = 6 by omega) with rfl | rfl | rfl | rfl | rfl | rfl | rfl
    · simp [toJ, isPlain]
    · simp [toJ, isPlain]
    · simp [toJ, isPlain]
    · by_cases he : h % 2 = 0 <;> simp [toJ, isPlain, he]
    · simp [toJ, isPlain]
    · simp [toJ, isPlain]
    · simp [toJ, isPlain]
theorem jb_toJ {v : V} (hr : Right v) : JB (toJ v) ∧ ∀ s, toJ v = .str s → s.size ≤ 2000 := by
  have htx := right_text hr
  obtain ⟨hg, _⟩ := hr
  cases hg with
  | mk k h t l ks vs k0 k6 hk' tk lk kk kv hh ht hl hv hks hkt gl gv =>
    simp only [V.text] at htx
    unfold HalfOk at hh
    rcases (show k = 0 ∨ k = 1 ∨ k = 2 ∨ k = 3 ∨ k = 4 ∨ k = 5 ∨ k = 6 by omega) with rfl | rfl | rfl | rfl | rfl | rfl | rfl
    · simp [toJ, JB]
    · simp [toJ, JB]
    · simp [toJ, JB]
    · by_cases he : h % 2 = 0
      · simp only [toJ, he]
        exact ⟨show _ ∧ _ by omega, fun s hs => by simp at hs⟩
      · simp only [toJ, he]
        exact ⟨show _ ∧ _ ∧ _ by omega, fun s hs => by simp at hs⟩
    · simp only [toJ]
      refine ⟨show t.size ≤ 1000000 by omega, fun s hs => ?_⟩
      simp at hs
      rw [← hs]
      exact htx
    · simp [toJ, JB]
    · simp [toJ, JB]
/-- A row of right values, as the program writes it. -/
theorem rows_text {l : List V} (hl : l.length ≤ 2147483648) (hr : ∀ x ∈ l, Right x) (w : World) (ge : Nat) (hbe : Blk w ge escCells 9) (ok : Nat → Prop) (v : Value) (h : KJs w ok (toJs l) v) :
    Calls Tryz.prog 48 #[.string ⟨#[116, 115, 118]⟩, .iface 59 v, .string ⟨#[9]⟩, .func (.func 50) #[.slice (some ⟨ge, 0, none⟩) 10 10] #[]] w (JAns (toJs l) w) := by
  have hm : ∀ j ∈ toJs l, ∃ x ∈ l, j = toJ x := fun j hj => by
    rw [toJs_map, List.mem_map] at hj
    obtain ⟨x, hx, rfl⟩ := hj
    exact ⟨x, hx, rfl⟩
  refine row_walk w ge hbe (toJs l) (by rw [toJs_map, List.length_map]; exact hl) (fun j hj => ?_) (fun s hs => ?_) ok v h
  · obtain ⟨x, hx, rfl⟩ := hm j hj
    exact (jb_toJ (hr x hx)).1
  · obtain ⟨x, hx, he⟩ := hm _ hs
    have := (jb_toJ (hr x hx)).2 s he.symm
    omega
theorem cells_toJ : ∀ {l : List V}, (∀ x ∈ l, Right x ∧ x.kind ≤ 4) → (toJs l).map jText = l.map cellT
  | [], _ => rfl
  | x :: r, h => by
    rw [toJs, List.map_cons, List.map_cons, cell_toJ (h x List.mem_cons_self).1 (h x List.mem_cons_self).2, cells_toJ fun y hy => h y (List.mem_cons_of_mem _ hy)]
theorem ends_iface {l : List J} {w w' : World} {e : Ending} (h : JAns l w e w') : ∃ t p, e = .returned (.iface t p) := by
  obtain ⟨⟨_, rfl⟩ | ⟨_, a, rfl⟩, _⟩ := h
  · exact ⟨_, _, rfl⟩
  · exact ⟨_, _, rfl⟩
theorem zz_row {l : List V} (hl : l.length ≤ 2147483648) (hr : ∀ x ∈ l, Right x) (w : World) (ok : Nat → Prop) (v : Value) (h : KJs w ok (toJs l) v) : Calls Tryz.prog 19 #[.iface 59 v] w (JAns (toJs l) w) :=
  zz_of (JAns (toJs l)) (fun _ _ _ h => ends_iface h) w _ (.inr ⟨_, _, rfl⟩) (tsv_of (JAns (toJs l)) (post_row _) (fun _ _ _ h => ends_iface h) w _ (.inr ⟨_, _, rfl⟩) fun W ge ho hb => by
    obtain ⟨X, s, r⟩ := h
    exact rows_text hl hr W ge hb ok v ⟨X, s.old ho, fun i hi => (r i hi).old ho⟩)
theorem row_gives {l : List V} (hl : l.length ≤ 2147483648) (hr : ∀ x ∈ l, Right x) (hk : ∀ x ∈ l, x.kind ≤ 4) (w : World) (ok : Nat → Prop) (v : Value) (h : KJs w ok (toJs l) v) : Calls Tryz.prog 19 #[.iface 59 v] w (GoText (joinT (l.map cellT)) w) := by
  refine (zz_row hl hr w ok v h).mono fun e w' hj => ?_
  obtain ⟨⟨_, he⟩ | ⟨⟨j, hj, hp⟩, _⟩, ho⟩ := hj
  · refine ⟨?_, ho⟩
    rw [he, cells_toJ fun x hx => ⟨hr x hx, hk x hx⟩]
  · rw [toJs_map, List.mem_map] at hj
    obtain ⟨x, hx, rfl⟩ := hj
    rw [plain_toJ (hr x hx), decide_eq_false_iff_not] at hp
    exact absurd (hk x hx) hp
theorem row_fails {l : List V} (hl : l.length ≤ 2147483648) (hr : ∀ x ∈ l, Right x) (hk : ∃ x ∈ l, 5 ≤ x.kind) (w : World) (ok : Nat → Prop) (v : Value) (h : KJs w ok (toJs l) v) : Calls Tryz.prog 19 #[.iface 59 v] w (GoErr w) := by
  refine (zz_row hl hr w ok v h).mono fun e w' hj => ?_
  obtain ⟨⟨hall, _⟩ | ⟨_, a, he⟩, ho⟩ := hj
  · obtain ⟨x, hx, h5⟩ := hk
    have := hall (toJ x) (by rw [toJs_map]; exact List.mem_map_of_mem hx)
    rw [plain_toJ (hr x hx), decide_eq_true_eq] at this
    omega
  · exact ⟨⟨_, a, he, .inr rfl⟩, ho⟩
theorem toJ_arr {v : V} (hr : Right v) : (v.kind = 5 → toJ v = .arr (toJs v.list)) ∧ (v.kind ≠ 5 → ∀ l, toJ v ≠ .arr l) := by
  obtain ⟨hg, _⟩ := hr
  cases hg with
  | mk k h t l ks vs k0 k6 hk' tk lk kk kv hh ht hl hv hks hkt gl gv =>
    simp only [V.kind, V.list]
    rcases (show k = 0 ∨ k = 1 ∨ k = 2 ∨ k = 3 ∨ k = 4 ∨ k = 5 ∨ k = 6 by omega) with rfl | rfl | rfl | rfl | rfl | rfl | rfl
    · simp [toJ]
    · simp [toJ]
    · simp [toJ]
    · by_cases he : h % 2 = 0 <;> simp [toJ, he]
    · simp [toJ]
    · simp [toJ]
    · simp [toJ]
theorem zz_text {v : V} (hr : Right v) (h5 : v.kind = 5) (hk : ∀ x ∈ v.list, x.kind ≤ 4) (w : World) (ok : Nat → Prop) (x : Value) (h : KJ w ok (toJ v) x) : Calls Tryz.prog 19 #[x] w (GoText (joinT (v.list.map cellT)) w) := by
  rw [(toJ_arr hr).1 h5] at h
  cases h with
  | arr l y X s r => exact row_gives (by have := (right_list hr).1; omega) (right_list hr).2 hk w ok y ⟨X, s, r⟩
theorem zz_error {v : V} (hr : Right v) (hv : v.kind = 5 → ∃ x ∈ v.list, 5 ≤ x.kind) (w : World) (ok : Nat → Prop) (x : Value) (h : KJ w ok (toJ v) x) : Calls Tryz.prog 19 #[x] w (GoErr w) := by
  by_cases h5 : v.kind = 5
  · rw [(toJ_arr hr).1 h5] at h
    cases h with
    | arr l y X s r => exact row_fails (by have := (right_list hr).1; omega) (right_list hr).2 (hv h5) w ok y ⟨X, s, r⟩
  · have hj := (toJ_arr hr).2 h5
    have hs := jshape h
    refine (zz_of NoRow (fun _ _ _ h => ?_) w _ hs (tsv_of NoRow post_no (fun _ _ _ h => ?_) w _ hs fun W ge ho hb => join_no hj _ W ok x (h.old ho))).mono fun e w' hn => ?_
    · obtain ⟨⟨a, rfl⟩, _⟩ := h
      exact ⟨_, _, rfl⟩
    · obtain ⟨⟨a, rfl⟩, _⟩ := h
      exact ⟨_, _, rfl⟩
    · obtain ⟨⟨a, he⟩, ho⟩ := hn
      exact ⟨⟨_, a, he, .inl rfl⟩, ho⟩
/-- FormatTSV of a right value. -/
theorem tsv_text {v : V} (hr : Right v) (h5 : v.kind = 5) (hk : ∀ x ∈ v.list, x.kind ≤ 4) (w : World) (ok : Nat → Prop) (c0 c1 c2 c3 c4 c5 : Value) (hc : KV w ok v [c0, c1, c2, c3, c4, c5]) :
    Calls Tryz.prog 8 #[.agg #[c0, c1, c2, c3, c4, c5]] w (TextAns (joinT (v.list.map cellT)) w) :=
  door_text (toGo_any hr.1) _ (fun W ok x h => zz_text hr h5 hk W ok x h) w ok _ _ _ _ _ _ hc
theorem tsv_error {v : V} (hr : Right v) (hv : v.kind = 5 → ∃ x ∈ v.list, 5 ≤ x.kind) (w : World) (ok : Nat → Prop) (c0 c1 c2 c3 c4 c5 : Value) (hc : KV w ok v [c0, c1, c2, c3, c4, c5]) :
    Calls Tryz.prog 8 #[.agg #[c0, c1, c2, c3, c4, c5]] w (ErrAns w) :=
  door_err (toGo_any hr.1) (fun W ok x h => zz_error hr hv W ok x h) w ok _ _ _ _ _ _ hc
end Go.Proofs.YthggnkmlnjlggaaGreatDoor
