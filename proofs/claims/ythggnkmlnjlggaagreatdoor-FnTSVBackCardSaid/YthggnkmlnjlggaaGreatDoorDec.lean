/-
  Decimals: digits, their number, and the place of the point: plain words.
  Conditions: none.
-/
import Derived.Lib.ValidLaws
namespace Go.Proofs.YthggnkmlnjlggaaGreatDoor

/-- The number that digits are, the highest first. -/
def vald (l : List Nat) : Nat := l.foldl (fun a d => 10 * a + d) 0
theorem vald_go (l : List Nat) : ∀ a, l.foldl (fun a d => 10 * a + d) a = a * 10 ^ l.length + vald l := by
  induction l with
  | nil => intro a; simp [vald]
  | cons d r ih =>
    intro a
    unfold vald
    simp only [List.foldl_cons, List.length_cons]
    rw [ih, ih (10 * 0 + d)]
    rw [Nat.pow_succ]
    generalize 10 ^ r.length = p
    generalize vald r = q
    simp only [Nat.add_mul, Nat.mul_zero, Nat.zero_add]
    rw [Nat.mul_comm p 10, ← Nat.mul_assoc, Nat.mul_comm a 10]
    omega
theorem vald_append (a b : List Nat) : vald (a ++ b) = vald a * 10 ^ b.length + vald b := by
  show (a ++ b).foldl _ 0 = _
  rw [List.foldl_append, vald_go]
  rfl
theorem vald_snoc (l : List Nat) (d : Nat) : vald (l ++ [d]) = 10 * vald l + d := by
  rw [vald_append]
  simp [vald]
  omega
theorem vald_cons (d : Nat) (r : List Nat) : vald (d :: r) = d * 10 ^ r.length + vald r := by
  have := vald_append [d] r
  simpa [vald] using this
theorem vald_nil : vald [] = 0 := rfl
theorem vald_lt : ∀ {l : List Nat}, (∀ d ∈ l, d < 10) → vald l < 10 ^ l.length
  | [], _ => by simp [vald]
  | d :: r, h => by
    have h1 := h d List.mem_cons_self
    have h2 := vald_lt fun x hx => h x (List.mem_cons_of_mem _ hx)
    rw [vald_cons, List.length_cons, Nat.pow_succ]
    have h3 : d * 10 ^ r.length ≤ 9 * 10 ^ r.length := Nat.mul_le_mul_right _ (by omega)
    omega
theorem vald_low {l : List Nat} (h : l.head? ≠ some 0) (h0 : l ≠ []) : 10 ^ (l.length - 1) ≤ vald l := by
  match l, h0 with
  | d :: r, _ =>
    rw [vald_cons, List.length_cons, Nat.add_sub_cancel]
    have hd : d ≠ 0 := fun e => h (by simp [e])
    have : 1 * 10 ^ r.length ≤ d * 10 ^ r.length := Nat.mul_le_mul_right _ (by omega)
    omega

/-- The digits of a number. -/
def digs (n : Nat) : List Nat := if n < 10 then [n] else digs (n / 10) ++ [n % 10]
termination_by n
theorem digs_small {n : Nat} (h : n < 10) : digs n = [n] := by rw [digs, if_pos h]
theorem digs_big {n : Nat} (h : ¬ n < 10) : digs n = digs (n / 10) ++ [n % 10] := by rw [digs, if_neg h]
theorem digs_ne (n : Nat) : digs n ≠ [] := by
  by_cases h : n < 10
  · simp [digs_small h]
  · simp [digs_big h]
theorem vald_digs (n : Nat) : vald (digs n) = n := by
  induction n using Nat.strongRecOn with
  | ind n ih =>
    by_cases h : n < 10
    · simp [digs_small h, vald]
    · rw [digs_big h, vald_snoc, ih _ (by omega)]
      omega
theorem digs_lt (n : Nat) : ∀ d ∈ digs n, d < 10 := by
  induction n using Nat.strongRecOn with
  | ind n ih =>
    by_cases h : n < 10
    · simpa [digs_small h] using h
    · rw [digs_big h]
      intro d hd
      rcases List.mem_append.1 hd with hd | hd
      · exact ih _ (by omega) d hd
      · obtain rfl := List.mem_singleton.1 hd
        omega
theorem digs_head {n : Nat} (hn : 0 < n) : (digs n).head? ≠ some 0 := by
  induction n using Nat.strongRecOn with
  | ind n ih =>
    by_cases h : n < 10
    · simp [digs_small h]; omega
    · rw [digs_big h]
      have h1 := ih (n / 10) (by omega) (by omega)
      have h2 := digs_ne (n / 10)
      match hd : digs (n / 10), h2 with
      | a :: r, _ =>
        rw [hd] at h1
        simpa using h1
theorem digs_of {l : List Nat} (hl : ∀ d ∈ l, d < 10) (hh : l.head? ≠ some 0) (hne : l ≠ []) : l = digs (vald l) := by
  induction hn : l.length generalizing l with
  | zero => exact absurd (List.eq_nil_of_length_eq_zero hn) hne
  | succ n ih =>
    obtain ⟨r, d, rfl⟩ : ∃ r d, l = r ++ [d] := ⟨l.dropLast, l.getLast hne, (List.dropLast_concat_getLast hne).symm⟩
    have hd := hl d (by simp)
    have hr : ∀ x ∈ r, x < 10 := fun x hx => hl x (by simp [hx])
    by_cases he : r = []
    · subst he
      simp [vald, digs_small hd]
    · have hh' : r.head? ≠ some 0 := by
        match r, he with
        | a :: s, _ => simpa using hh
      have := ih hr hh' he (by simpa using hn)
      have hlow := vald_low hh' he
      have hp : 0 < 10 ^ (r.length - 1) := Nat.pow_pos (by decide)
      rw [vald_snoc, digs_big (by omega), show (10 * vald r + d) / 10 = vald r by omega, show (10 * vald r + d) % 10 = d by omega, ← this]
theorem digs_len {n : Nat} {k : Nat} (h : n < 10 ^ k) (hk : 0 < k) : (digs n).length ≤ k := by
  by_cases h0 : n = 0
  · subst h0
    simp [digs_small]
    omega
  · have h1 := vald_low (digs_head (by omega : 0 < n)) (digs_ne n)
    rw [vald_digs] at h1
    have h2 : 10 ^ ((digs n).length - 1) < 10 ^ k := by omega
    have := (Nat.pow_lt_pow_iff_right (by decide : 1 < 10)).1 h2
    omega

/-- Digits without zeros at the ends. -/
structure Canon (l : List Nat) : Prop where
  lt : ∀ d ∈ l, d < 10
  head : l.head? ≠ some 0
  tail : vald l % 10 ≠ 0
theorem Canon.ne {l : List Nat} (h : Canon l) : l ≠ [] := by
  rintro rfl
  exact h.tail rfl
theorem Canon.pos {l : List Nat} (h : Canon l) : 0 < l.length := List.length_pos_iff.2 h.ne
theorem Canon.low {l : List Nat} (h : Canon l) : 10 ^ (l.length - 1) ≤ vald l := vald_low h.head h.ne
theorem Canon.up {l : List Nat} (h : Canon l) : vald l < 10 ^ l.length := vald_lt h.lt

/-- The number of a decimal, as so many of a small unit. -/
def sc (s : Nat) (l : List Nat) (dp : Int) : Nat := vald l * 10 ^ (dp + s - l.length).toNat

/-- Two decimals of one number are one. -/
theorem same_num {V M a b : Nat} (hV : V % 10 ≠ 0) (hM : M % 10 ≠ 0) (h : V * 10 ^ a = M * 10 ^ b) : a = b ∧ V = M := by
  have key : ∀ {V M a b : Nat}, V % 10 ≠ 0 → a ≤ b → V * 10 ^ a = M * 10 ^ b → a = b ∧ V = M := by
    intro V M a b hV hab h
    have hp : 0 < 10 ^ a := Nat.pow_pos (by decide)
    obtain ⟨c, rfl⟩ := Nat.exists_eq_add_of_le hab
    rw [Nat.add_comm a c, Nat.pow_add, ← Nat.mul_assoc] at h
    have h2 := Nat.eq_of_mul_eq_mul_right hp h
    match c with
    | 0 => simp at h2; exact ⟨by omega, h2⟩
    | c + 1 =>
      rw [Nat.pow_succ, ← Nat.mul_assoc] at h2
      omega
  rcases Nat.le_total a b with hab | hab
  · exact key hV hab h
  · obtain ⟨h1, h2⟩ := key hM hab h.symm
    exact ⟨h1.symm, h2.symm⟩
theorem canon_eq {s : Nat} {l : List Nat} {dp : Int} (hl : Canon l) {M b : Nat} (hM : M % 10 ≠ 0) (h : sc s l dp = M * 10 ^ b) (hs : (l.length : Int) ≤ dp + s) : l = digs M ∧ dp + s = l.length + b := by
  obtain ⟨h1, h2⟩ := same_num hl.tail hM h
  refine ⟨by rw [← h2]; exact digs_of hl.lt hl.head hl.ne, by omega⟩

/-! ### Division by a power of two -/
/-- The number of the first i digits; zeros behind the last. -/
def pre (l : List Nat) : Nat → Nat
  | 0 => 0
  | i + 1 => 10 * pre l i + l.getD i 0
theorem pre_take (l : List Nat) : ∀ i, i ≤ l.length → pre l i = vald (l.take i)
  | 0, _ => by simp [pre, vald]
  | i + 1, h => by
    rw [pre, pre_take l i (by omega), List.take_succ_eq_append_getElem (by omega), vald_snoc]
    simp [List.getD_eq_getElem?_getD, List.getElem?_eq_getElem (by omega : i < l.length)]
theorem pre_all (l : List Nat) : pre l l.length = vald l := by rw [pre_take l _ (Nat.le_refl _), List.take_length]
theorem pre_over (l : List Nat) : ∀ j, pre l (l.length + j) = vald l * 10 ^ j
  | 0 => by simp [pre_all]
  | j + 1 => by
    rw [← Nat.add_assoc, pre, pre_over l j, Nat.pow_succ]
    simp [List.getD_eq_getElem?_getD]
    rw [Nat.mul_comm (10 ^ j) 10, Nat.mul_left_comm]
theorem pre_low {l : List Nat} (h : Canon l) : ∀ i, 10 ^ i ≤ pre l (i + 1)
  | 0 => by
    match l, h.ne with
    | d :: r, _ =>
      have hd : d ≠ 0 := fun e => h.head (by simp [e])
      simp [pre]
      omega
  | i + 1 => by
    rw [pre, Nat.pow_succ]
    have := pre_low h i
    omega
theorem pre_digit {l : List Nat} (h : ∀ d ∈ l, d < 10) (i : Nat) : l.getD i 0 < 10 := by
  by_cases hi : i < l.length
  · simp only [List.getD_eq_getElem?_getD, List.getElem?_eq_getElem hi, Option.getD_some]
    exact h _ (List.getElem_mem hi)
  · simp [List.getD_eq_getElem?_getD, List.getElem?_eq_none (by omega : l.length ≤ i)]

/-- A round of the division: the next digit, and what is left. -/
theorem half_step {P O n k d : Nat} (h : P = O * (10 * 2 ^ k) + n) : 10 * P + d = (10 * O + n / 2 ^ k) * (10 * 2 ^ k) + (n % 2 ^ k * 10 + d) := by
  have hn := Nat.div_add_mod n (2 ^ k)
  subst h
  generalize 2 ^ k = p at *
  generalize n / p = a at *
  generalize n % p = b at *
  subst hn
  simp only [Nat.mul_add, Nat.add_mul, Nat.mul_assoc, Nat.mul_left_comm, Nat.mul_comm]
  omega
theorem half_left {n k d : Nat} (hd : d < 10) : n % 2 ^ k * 10 + d < 10 * 2 ^ k := by
  have := Nat.mod_lt n (Nat.two_pow_pos k)
  omega
theorem half_digit {n k : Nat} (h : n < 10 * 2 ^ k) : n / 2 ^ k < 10 := (Nat.div_lt_iff_lt_mul (Nat.two_pow_pos k)).2 h
/-- Nothing is left once there have been enough zeros. -/
theorem half_end {l : List Nat} {O n k i : Nat} (h : pre l i = O * (10 * 2 ^ k) + n) (hn : n < 10 * 2 ^ k) (hi : l.length + k + 1 ≤ i) : n = 0 := by
  obtain ⟨j, rfl⟩ := Nat.exists_eq_add_of_le hi
  rw [show l.length + k + 1 + j = l.length + (k + 1 + j) by omega, pre_over] at h
  have e : (10 : Nat) ^ (k + 1 + j) = 10 * 2 ^ k * (5 ^ k * 10 ^ j) := by
    rw [Nat.pow_add, Nat.pow_succ, show (10 : Nat) ^ k = 2 ^ k * 5 ^ k by rw [← Nat.mul_pow]]
    simp only [Nat.mul_assoc, Nat.mul_left_comm, Nat.mul_comm]
  rw [e, Nat.mul_left_comm] at h
  generalize 10 * 2 ^ k = p at *
  have h1 : p * (vald l * (5 ^ k * 10 ^ j)) % p = (O * p + n) % p := by rw [h]
  rw [Nat.mul_mod_right, Nat.mul_comm O p, Nat.mul_add_mod, Nat.mod_eq_of_lt hn] at h1
  exact h1.symm
theorem half_sc {l O : List Nat} {k i i0 s : Nat} {dp : Int} (h : pre l i = vald O * (10 * 2 ^ k)) (hi : l.length ≤ i) (hm : i = i0 + O.length) (hs : (i : Int) ≤ dp + s) : sc s O (dp - (i0 - 1)) * 2 ^ k = sc s l dp := by
  obtain ⟨j, rfl⟩ := Nat.exists_eq_add_of_le hi
  rw [pre_over] at h
  unfold sc
  obtain ⟨t, ht⟩ : ∃ t : Nat, dp + s = ((l.length + j : Nat) : Int) + t := ⟨(dp + s - ((l.length + j : Nat) : Int)).toNat, by omega⟩
  rw [show (dp + (s : Int) - (l.length : Int)).toNat = j + t by omega, show (dp - ((i0 : Int) - 1) + (s : Int) - (O.length : Int)).toNat = 1 + t by omega, Nat.pow_add, Nat.pow_add, ← Nat.mul_assoc (vald l), h]
  simp only [Nat.pow_one, Nat.mul_assoc, Nat.mul_left_comm, Nat.mul_comm]

/-! ### Zeros at the end -/
theorem sc_zeros {s : Nat} {r : List Nat} {n : Nat} {dp : Int} (hs : ((r.length + n : Nat) : Int) ≤ dp + s) : sc s (r ++ List.replicate n 0) dp = sc s r dp := by
  have hv : ∀ n, vald (r ++ List.replicate n 0) = vald r * 10 ^ n := by
    intro n
    induction n with
    | zero => simp
    | succ n ih =>
      rw [List.replicate_succ', ← List.append_assoc, vald_snoc, ih, Nat.pow_succ, Nat.mul_comm (10 ^ n) 10, Nat.mul_left_comm, Nat.add_zero]
  unfold sc
  rw [hv, Nat.mul_assoc, ← Nat.pow_add, List.length_append, List.length_replicate]
  congr 2
  omega

/-! ### Which of two is greater -/
theorem sc_bounds {s : Nat} {l : List Nat} {dp : Int} (h : Canon l) (hs : (l.length : Int) ≤ dp + s) : 10 ^ (dp + s - 1).toNat ≤ sc s l dp ∧ sc s l dp < 10 ^ (dp + s).toNat := by
  have h1 := h.low
  have h2 := h.up
  have h3 := h.pos
  unfold sc
  obtain ⟨t, ht⟩ : ∃ t : Nat, dp + s = (l.length : Int) + t := ⟨(dp + s - l.length).toNat, by omega⟩
  rw [show (dp + (s : Int) - 1).toNat = (l.length - 1) + t by omega, show (dp + (s : Int) - (l.length : Int)).toNat = t by omega, show (dp + (s : Int)).toNat = l.length + t by omega, Nat.pow_add, Nat.pow_add]
  exact ⟨Nat.mul_le_mul_right _ h1, Nat.mul_lt_mul_of_pos_right h2 (Nat.pow_pos (by decide))⟩
theorem dp_le {s : Nat} {a b : List Nat} {da db : Int} (ha : Canon a) (hb : Canon b) (sa : (a.length : Int) ≤ da + s) (sb : (b.length : Int) ≤ db + s) (h : sc s b db < sc s a da) : db ≤ da := by
  have h1 := (sc_bounds ha sa).2
  have h2 := (sc_bounds hb sb).1
  have hb0 := hb.pos
  have h3 : (10 : Nat) ^ (db + s - 1).toNat < 10 ^ (da + s).toNat := by omega
  have := (Nat.pow_lt_pow_iff_right (by decide : 1 < 10)).1 h3
  omega
/-- The number of the first m digits, zeros behind. -/
theorem sc_pre {s : Nat} {l : List Nat} {dp : Int} {m : Nat} (hm : l.length ≤ m) (hs : (m : Int) ≤ dp + s) : sc s l dp = pre l m * 10 ^ (dp + s - m).toNat := by
  obtain ⟨j, rfl⟩ := Nat.exists_eq_add_of_le hm
  rw [pre_over, Nat.mul_assoc, ← Nat.pow_add]
  unfold sc
  congr 2
  omega
theorem pre_apart {a b : List Nat} (ha : ∀ d ∈ a, d < 10) (hb : ∀ d ∈ b, d < 10) (i : Nat) (he : pre a i ≤ pre b i) (hd : a.getD i 0 < b.getD i 0) : ∀ j, pre a (i + 1 + j) < pre b (i + 1 + j)
  | 0 => by simp only [pre]; omega
  | j + 1 => by
    have := pre_apart ha hb i he hd j
    have h1 := pre_digit ha (i + 1 + j)
    rw [← Nat.add_assoc, pre, pre]
    omega
/-- At the first place where they differ the greater one has the greater digit. -/
theorem cmp_at {s : Nat} {a b : List Nat} {dp : Int} {i : Nat} (ha : ∀ d ∈ a, d < 10) (hb : ∀ d ∈ b, d < 10) (hs : (a.length + b.length + i + 1 : Int) ≤ dp + s) (h : sc s b dp < sc s a dp) (he : ∀ j, j < i → a.getD j 0 = b.getD j 0) (hd : a.getD i 0 ≠ b.getD i 0) : b.getD i 0 < a.getD i 0 := by
  refine Nat.lt_of_le_of_ne (Nat.le_of_not_lt fun hlt => ?_) (Ne.symm hd)
  have hpe : ∀ j, j ≤ i → pre a j = pre b j := by
    intro j
    induction j with
    | zero => intro _; rfl
    | succ j ih => intro hj; rw [pre, pre, ih (by omega), he j (by omega)]
  have h1 := pre_apart ha hb i (Nat.le_of_eq (hpe i (Nat.le_refl _))) hlt (a.length + b.length)
  rw [sc_pre (m := i + 1 + (a.length + b.length)) (by omega) (by omega), sc_pre (m := i + 1 + (a.length + b.length)) (by omega) (by omega)] at h
  have hp : 0 < 10 ^ (dp + s - (i + 1 + (a.length + b.length) : Nat)).toNat := Nat.pow_pos (by decide)
  have := Nat.lt_of_mul_lt_mul_right h
  omega
theorem cmp_all {s : Nat} {a b : List Nat} {dp : Int} (hs : (a.length + b.length : Int) ≤ dp + s) (he : ∀ j, j < a.length ∨ j < b.length → a.getD j 0 = b.getD j 0) : sc s b dp = sc s a dp := by
  have hpe : ∀ j, pre a j = pre b j := by
    intro j
    induction j with
    | zero => rfl
    | succ j ih =>
      rw [pre, pre, ih]
      by_cases hj : j < a.length ∨ j < b.length
      · rw [he j hj]
      · have h1 : a.length ≤ j := by omega
        have h2 : b.length ≤ j := by omega
        simp [List.getD_eq_getElem?_getD, List.getElem?_eq_none h1, List.getElem?_eq_none h2]
  rw [sc_pre (m := a.length + b.length) (by omega) (by omega), sc_pre (l := a) (m := a.length + b.length) (by omega) (by omega), hpe]
end Go.Proofs.YthggnkmlnjlggaaGreatDoor
