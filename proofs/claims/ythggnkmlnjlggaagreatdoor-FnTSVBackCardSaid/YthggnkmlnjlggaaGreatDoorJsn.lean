/-
  Lists of values joined; a text in quotes: the walk of quoted.
  Conditions: none.
-/
import Derived.Test.YthggnkmlnjlggaaGreatDoorRefF
import Derived.Test.YthggnkmlnjlggaaGreatDoorUp
import Derived.Deep.AppendSrc
import Derived.Deep.DrawnRows
namespace Go.Proofs.YthggnkmlnjlggaaGreatDoor
open Go.RowKit

theorem Tryz.infoVal : (Tryz.prog.info? 26).map (fun i => (i.zero, i.size, i.bytes)) = some (some (.agg #[.int .i64 0, .int .i64 0, .string ⟨#[]⟩, .slice none 0 0, .slice none 0 0, .slice none 0 0]), 6, 104) := by kernel_rfl
theorem one_six {w : World} {ok : Nat → Prop} {v : V} {cs : List Value} (h : KV w ok v cs) : ∀ u ∈ cs, u.oneCell' = true := by
  cases h with
  | mk k h t l ks vs v1 v2 v3 C1 C3 s1 r1 s2 s3 r3 =>
    obtain ⟨A1, m1, rfl, _⟩ := s1.len
    obtain ⟨A2, m2, rfl, _⟩ := s2.len
    obtain ⟨A3, m3, rfl, _⟩ := s3.len
    intro u hu
    simp only [List.mem_cons, List.mem_nil_iff, or_false] at hu
    rcases hu with rfl | rfl | rfl | rfl | rfl | rfl <;> rfl
/-- The cells of n elements, one behind the other. -/
def flat (C : Nat → List Value) : Nat → List Value
  | 0 => []
  | n + 1 => flat C n ++ C n
theorem flat_length {C : Nat → List Value} {s : Nat} : ∀ n, (∀ i, i < n → (C i).length = s) → (flat C n).length = n * s
  | 0, _ => by simp [flat]
  | n + 1, h => by
    rw [flat, List.length_append, flat_length n fun i hi => h i (by omega), h n (by omega), Nat.succ_mul]
theorem flat_at {C : Nat → List Value} {s : Nat} : ∀ n, (∀ i, i < n → (C i).length = s) → ∀ i, i < n → ∀ j, j < s → (flat C n)[i * s + j]? = (C i)[j]?
  | 0, _, i, hi, _, _ => absurd hi (by omega)
  | n + 1, h, i, hi, j, hj => by
    have hl := flat_length n fun i hi => h i (by omega)
    rw [flat]
    by_cases he : i = n
    · subst he
      rw [List.getElem?_append_right (by rw [hl]; omega), hl, Nat.add_sub_cancel_left]
    · have hlt : i * s + j < n * s := by
        calc i * s + j < i * s + s := by omega
          _ = (i + 1) * s := by rw [Nat.succ_mul]
          _ ≤ n * s := Nat.mul_le_mul_right _ (by omega)
      rw [List.getElem?_append_left (by rw [hl]; exact hlt)]
      exact flat_at n (fun i hi => h i (by omega)) i (by omega) j hj
theorem flat_mem {C : Nat → List Value} {u : Value} : ∀ n, u ∈ flat C n → ∃ i, i < n ∧ u ∈ C i
  | 0, h => by cases h
  | n + 1, h => by
    rcases List.mem_append.1 h with h | h
    · obtain ⟨i, hi, hu⟩ := flat_mem n h
      exact ⟨i, by omega, hu⟩
    · exact ⟨n, by omega, h⟩

/-- What an append takes from a list of values. -/
def Taken (w : World) (x : Value) (m : Nat) (news : List Value) : Prop :=
  (m = 0 ∧ news = [] ∧ ∃ A c, x = .slice A 0 c ∧ (A = none → c = 0)) ∨ (0 < m ∧ ∃ ad c, x = .slice (some ad) m c ∧ news.length = m * 6 ∧ (∀ j u, news[j]? = some u → w.cell? (ad.add j) = some u) ∧ ∀ u ∈ news, u.oneCell' = true)
theorem KVs.taken {w : World} {ok : Nat → Prop} {l : List V} {x : Value} (h : KVs w ok l x) : ∃ C, (∀ i (hi : i < l.length), KV w ok l[i] (C i)) ∧ Taken w x l.length (flat C l.length) := by
  obtain ⟨C, s, r⟩ := h
  refine ⟨C, r, ?_⟩
  have hlen : ∀ i, i < l.length → (C i).length = 6 := fun i hi => (r i hi).length
  obtain ⟨A, c, rfl, hc, hn, hs⟩ := s
  rcases Nat.eq_zero_or_pos l.length with h0 | h0
  · exact .inl ⟨h0, by rw [h0]; rfl, A, c, by rw [h0], hn⟩
  · obtain ⟨b, o, cs, t, fz, rfl, ho, hb, hr⟩ := hs h0
    refine .inr ⟨h0, ⟨b, o, none⟩, c, rfl, flat_length _ hlen, fun j u hu => ?_, fun u hu => ?_⟩
    · have hj : j < l.length * 6 := by
        have := (List.getElem?_eq_some_iff.1 hu).1
        rwa [flat_length _ hlen] at this
      have h1 := flat_at _ hlen (j / 6) (by omega) (j % 6) (by omega)
      rw [show j / 6 * 6 + j % 6 = j by omega, hu] at h1
      have h2 := (hr (j / 6) (by omega)).2 (j % 6) (by omega)
      rw [show o + j / 6 * 6 + j % 6 = o + j by omega, ← h1] at h2
      have hadd : (⟨b, o, none⟩ : Addr).add j = ⟨b, o + j, none⟩ := by unfold Addr.add; split <;> simp_all
      rw [hadd]
      simpa [World.cell?, hb] using h2
    · obtain ⟨i, hi, hu⟩ := flat_mem _ hu
      exact one_six (r i hi) u hu

theorem Taken.old {w w' : World} {x : Value} {m : Nat} {news : List Value} (h : Taken w x m news) (ho : Old w w') : Taken w' x m news := by
  rcases h with h | ⟨hm, ad, c, hx, hl, hn, h1⟩
  · exact .inl h
  · exact .inr ⟨hm, ad, c, hx, hl, fun j u hu => ho.cell (hn j u hu), h1⟩

/-- An append of a list of values, whatever its length, to a row of the call's own that is not nil. -/
theorem run_join (w : World) (base : Nat) (i : TypeInfo) (hi : Tryz.prog.info? 26 = some i) (hz : i.zero = some (.agg #[.int .i64 0, .int .i64 0, .string ⟨#[]⟩, .slice none 0 0, .slice none 0 0, .slice none 0 0])) (hsz : i.size = 6) (hby : i.bytes = 104)
    (ty : TypeId) (g0 n c0 : Nat) (xs : List Value) (hown : w.ownsRow base 26 6 (.slice (some ⟨g0, 0, none⟩) n c0) n xs) (x : Value) (m : Nat) (news : List Value) (hx : Taken w x m news) (hnm : n + m ≤ 1048576) (hb : base ≤ w.heap.size) :
    ∃ g cap w', (Builtin.append_ #[23, 23] ty #[.slice (some ⟨g0, 0, none⟩) n c0, x]).run Tryz.prog w = .ok (.slice (some ⟨g, 0, none⟩) (n + m) cap) w' ∧
      w'.ownsRow base 26 6 (.slice (some ⟨g, 0, none⟩) (n + m) cap) (n + m) (xs ++ news) ∧ w.grownBy w' (some g0) := by
  rcases hx with ⟨rfl, rfl, A, c, rfl, hc⟩ | ⟨hm, ad, c, rfl, hl, hnews, h1⟩
  · have hsrc : Src Tryz.prog i.size 23 (.slice A 0 c) 0 [] w := by
      rcases A with _ | ad
      · exact Src.ofNil w Tryz.underlying23 c
      · exact Src.ofSlice w Tryz.underlying23 ad 0 c [] (by simp) (fun j u h => by simp at h) (fun u h => by cases h)
    have hroom := own_cap hown
    have := run_append_room_src (P := Tryz.prog) w 23 23 ty 26 i Tryz.underlying23 hi g0 0 n c0 (.slice A 0 c) 0 [] hsrc (by omega) (fun j hj => by simp at hj) (fun j hj => by simp at hj)
    refine ⟨g0, c0, w, this, by simpa using hown, ⟨rfl, rfl, rfl, Nat.le_refl _, fun _ _ _ => rfl⟩⟩
  · obtain ⟨g, cap, w', h2, h3, h4, _, _⟩ := run_append_lies (P := Tryz.prog) w 23 ty base 26 i _ 6 104 Tryz.underlying23 hi hz hsz hby rfl (by decide) _ n xs hown ad m c news hl hnews h1 hm (by unfold maxLen; omega) (by omega) hb _ rfl
    exact ⟨g, cap, w', h2, h3, h4⟩
theorem KVs.join {w w' : World} {ok : Nat → Prop} {base : Nat} {la lb : List V} {Ca Cb : Nat → List Value} {v : Value} (ha : ∀ i (hi : i < la.length), KV w ok la[i] (Ca i)) (hb : ∀ i (hi : i < lb.length), KV w ok lb[i] (Cb i)) (ho : Old w w')
    (h : w'.ownsRow base 26 6 v (la.length + lb.length) (flat Ca la.length ++ flat Cb lb.length)) : KVs w' (fun _ => True) (la ++ lb) v := by
  have hla : ∀ i, i < la.length → (Ca i).length = 6 := fun i hi => (ha i hi).length
  have hlb : ∀ i, i < lb.length → (Cb i).length = 6 := fun i hi => (hb i hi).length
  have hfa := flat_length _ hla
  have key : ∀ i, i < la.length + lb.length → (if i < la.length then Ca i else Cb (i - la.length)).length = 6 ∧ ∀ j, j < 6 → (flat Ca la.length ++ flat Cb lb.length)[i * 6 + j]? = (if i < la.length then Ca i else Cb (i - la.length))[j]? := by
    intro i hi
    by_cases hlt : i < la.length
    · simp only [hlt, if_true]
      refine ⟨hla i hlt, fun j hj => ?_⟩
      rw [List.getElem?_append_left (by omega)]
      exact flat_at _ hla i hlt j hj
    · simp only [hlt, if_false]
      refine ⟨hlb _ (by omega), fun j hj => ?_⟩
      rw [List.getElem?_append_right (by omega), hfa, show i * 6 + j - la.length * 6 = (i - la.length) * 6 + j by omega]
      exact flat_at _ hlb _ (by omega) j hj
  refine ⟨fun i => if i < la.length then Ca i else Cb (i - la.length), ?_, fun i hi => ?_⟩
  · rw [List.length_append]
    exact SliceV.of_own h (fun _ _ => trivial) key
  · by_cases hlt : i < la.length
    · simp only [hlt, if_true]
      rw [List.getElem_append_left hlt]
      exact ((ha i hlt).old ho).mono fun _ _ _ => trivial
    · simp only [hlt, if_false]
      rw [List.getElem_append_right (by omega)]
      rw [List.length_append] at hi
      exact ((hb _ (by omega)).old ho).mono fun _ _ _ => trivial

/-- At a step of a drawn region. -/
theorem step_joinV {w : World} {ops : Array Oper} {o : Oper} {a : Act} {K : Act → World → Prop} {Q : Exit → Act → World → Prop} {E : Prop} (hgd : o.guard = none) (s x : Operand)
    (ho : o.op = .call { callee := .builtin .append, args := #[s, x], argTypes := #[23, 23] })
    (base : Nat) (i : TypeInfo) (hi : Tryz.prog.info? 26 = some i) (hz : i.zero = some (.agg #[.int .i64 0, .int .i64 0, .string ⟨#[]⟩, .slice none 0 0, .slice none 0 0, .slice none 0 0])) (hsz : i.size = 6) (hby : i.bytes = 104)
    (g0 n c0 : Nat) (xs : List Value) (hs : a.eval s = .slice (some ⟨g0, 0, none⟩) n c0) (hown : w.ownsRow base 26 6 (.slice (some ⟨g0, 0, none⟩) n c0) n xs) (xv : Value) (hxv : a.eval x = xv) (m : Nat) (news : List Value) (hx : Taken w xv m news) (hnm : n + m ≤ 1048576) (hb : base ≤ w.heap.size)
    (h : ∀ g cap w', w'.ownsRow base 26 6 (.slice (some ⟨g, 0, none⟩) (n + m) cap) (n + m) (xs ++ news) → w.grownBy w' (some g0) → K (a.put o.dst (.slice (some ⟨g, 0, none⟩) (n + m) cap)) w') :
    if Region.wanted o (yielded ops a.tmps) = true then Oper.wp Tryz.prog o a w K Q else E := by
  have hw : Region.wanted o (yielded ops a.tmps) = true := by simp [Region.wanted, hgd]
  rw [if_pos hw]
  obtain ⟨g, cap, w', hr, h2, h3⟩ := run_join w base i hi hz hsz hby o.type g0 n c0 xs hown xv m news hx hnm hb
  unfold Oper.wp execOp
  simp only [ho, resolve, invoke, builtin, Sem.run_bind, Sem.run_pure, Result.andThen_ok, List.map_toArray, List.map_cons, List.map_nil, hs, hxv, hr]
  exact h g cap w' h2 h3
/-- A text in quotes: not too long. -/
def QuoAns (n : Nat) (w : World) (e : Ending) (w' : World) : Prop := ∃ s how, e = .returned (.tuple #[.string s, .int .i64 how]) ∧ s.size ≤ 2 + 6 * n ∧ Old w w'
theorem extract_size (s : ByteArray) (a b : Nat) : (s.extract a b).size ≤ b - a := by
  have h : (s.extract a b).size = (s.extract a b).data.toList.length := Array.length_toList.symm
  rw [h, Lib.extract_data]
  exact List.length_take_le _ _
theorem u8_wrap (n : Int) (h : 0 ≤ n ∧ n ≤ 255) : IntKind.u8.wrap n = n := by
  have hd : IntKind.u8.wrap n = n % 256 := by simp [IntKind.wrap, IntKind.bits, IntKind.signed]
  rw [hd]
  omega
def hexS : ByteArray := ⟨#[48, 49, 50, 51, 52, 53, 54, 55, 56, 57, 97, 98, 99, 100, 101, 102]⟩
theorem rune_34 (w : World) : (convert 21 9 (.int .i32 34)).run Tryz.prog w = .ok (.string ⟨#[34]⟩) w := by kernel_rfl
theorem rune_92 (w : World) : (convert 21 9 (.int .i32 92)).run Tryz.prog w = .ok (.string ⟨#[92]⟩) w := by kernel_rfl
set_option maxHeartbeats 8000000 in
set_option maxRecDepth 100000 in
theorem quoted_any (s : ByteArray) (hs : s.size ≤ 1000000) (w : World) : Calls Tryz.prog 39 #[.string s] w (QuoAns s.size w) := by
  have HIX := Lib.hid (fun k hk W => index_at s k hk W)
  have HOB := Lib.hid (fun k hk => one_byte s k hk)
  go_enter Tryz.func39, Tryz.ntmps39
  go_wp2
  go_loopg [4, 5] s.size (fun gk s4 s5 wr => ∃ k X, k + gk = s.size ∧ s4 = .string X ∧ X.size ≤ 1 + 6 * k ∧ s5 = .int .i64 (k : Nat) ∧ Old w wr)
  case atStart => exact ⟨0, _, by omega, rfl, by decide, by go_num, Old.refl w⟩
  case round =>
    obtain ⟨k, X, hk, rfl, hX, rfl, hold⟩ := hrel
    have HO := Lib.hid hold
    clear hold
    by_cases hlt : k < s.size
    · have hix := HIX.out k hlt
      obtain ⟨c, hc⟩ : ∃ c, c = s.data.toList.getD k 0 := ⟨_, rfl⟩
      rw [← hc] at hix
      have hkl : (k : Int) < (s.size : Nat) := by omega
      have s1 : IntKind.i64.wrap ((k : Int) + 1) = (k : Int) + 1 := IntWalk.i64_in _ (by omega)
      have hc255 : (c.toNat : Int) ≤ 255 := by have := c.toNat_lt; omega
      have hc0 : (0 : Int) ≤ (c.toNat : Int) := by omega
      obtain ⟨n, hn⟩ : ∃ n, n = c.toNat := ⟨_, rfl⟩
      rw [← hn] at hix hc255 hc0
      clear hc hn
      by_cases hv : n = 34
      · subst hv
        have hL := Lib.hid (show (ByteArray.mk #[92, 34]).size = 2 from rfl)
        have hr := rune_34
        have hadd0 := fun W => run_string_add_sum (P := Tryz.prog) W ⟨#[92]⟩ ⟨#[34]⟩ (by decide)
        have hap : (⟨#[92]⟩ : ByteArray) ++ ⟨#[34]⟩ = ⟨#[92, 34]⟩ := rfl
        have hadd := fun W => run_string_add_sum (P := Tryz.prog) W X ⟨#[92, 34]⟩ (by have h1 := hL.out; omega)
        go_wp2
        go_roundg (gk - 1)
        case measure => omega
        case rel => exact ⟨k + 1, _, by omega, rfl, by rw [ByteArray.size_append]; have h1 := hL.out; omega, by go_num, HO.out⟩
      · have n34 : ((n : Int) == 34) = false := by rw [beq_eq_false_iff_ne]; omega
        skip
        by_cases hv : n = 92
        · subst hv
          have hL := Lib.hid (show (ByteArray.mk #[92, 92]).size = 2 from rfl)
          have hr := rune_92
          have hadd0 := fun W => run_string_add_sum (P := Tryz.prog) W ⟨#[92]⟩ ⟨#[92]⟩ (by decide)
          have hap : (⟨#[92]⟩ : ByteArray) ++ ⟨#[92]⟩ = ⟨#[92, 92]⟩ := rfl
          have hadd := fun W => run_string_add_sum (P := Tryz.prog) W X ⟨#[92, 92]⟩ (by have h1 := hL.out; omega)
          go_wp2
          go_roundg (gk - 1)
          case measure => omega
          case rel => exact ⟨k + 1, _, by omega, rfl, by rw [ByteArray.size_append]; have h1 := hL.out; omega, by go_num, HO.out⟩
        · have n92 : ((n : Int) == 92) = false := by rw [beq_eq_false_iff_ne]; omega
          skip
          by_cases hv : n = 10
          · subst hv
            have hL := Lib.hid (show (ByteArray.mk #[92, 110]).size = 2 from rfl)
            have hadd := fun W => run_string_add_sum (P := Tryz.prog) W X ⟨#[92, 110]⟩ (by have h1 := hL.out; omega)
            go_wp2
            go_roundg (gk - 1)
            case measure => omega
            case rel => exact ⟨k + 1, _, by omega, rfl, by rw [ByteArray.size_append]; have h1 := hL.out; omega, by go_num, HO.out⟩
          · have n10 : ((n : Int) == 10) = false := by rw [beq_eq_false_iff_ne]; omega
            by_cases hv : n = 9
            · subst hv
              have hL := Lib.hid (show (ByteArray.mk #[92, 116]).size = 2 from rfl)
              have hadd := fun W => run_string_add_sum (P := Tryz.prog) W X ⟨#[92, 116]⟩ (by have h1 := hL.out; omega)
              go_wp2
              go_roundg (gk - 1)
              case measure => omega
              case rel => exact ⟨k + 1, _, by omega, rfl, by rw [ByteArray.size_append]; have h1 := hL.out; omega, by go_num, HO.out⟩
            · have n9 : ((n : Int) == 9) = false := by rw [beq_eq_false_iff_ne]; omega
              by_cases hv : n = 13
              · subst hv
                have hL := Lib.hid (show (ByteArray.mk #[92, 114]).size = 2 from rfl)
                have hadd := fun W => run_string_add_sum (P := Tryz.prog) W X ⟨#[92, 114]⟩ (by have h1 := hL.out; omega)
                go_wp2
                go_roundg (gk - 1)
                case measure => omega
                case rel => exact ⟨k + 1, _, by omega, rfl, by rw [ByteArray.size_append]; have h1 := hL.out; omega, by go_num, HO.out⟩
              · have n13 : ((n : Int) == 13) = false := by rw [beq_eq_false_iff_ne]; omega
                by_cases hv : n = 8
                · subst hv
                  have hL := Lib.hid (show (ByteArray.mk #[92, 98]).size = 2 from rfl)
                  have hadd := fun W => run_string_add_sum (P := Tryz.prog) W X ⟨#[92, 98]⟩ (by have h1 := hL.out; omega)
                  go_wp2
                  go_roundg (gk - 1)
                  case measure => omega
                  case rel => exact ⟨k + 1, _, by omega, rfl, by rw [ByteArray.size_append]; have h1 := hL.out; omega, by go_num, HO.out⟩
                · have n8 : ((n : Int) == 8) = false := by rw [beq_eq_false_iff_ne]; omega
                  by_cases hv : n = 12
                  · subst hv
                    have hL := Lib.hid (show (ByteArray.mk #[92, 102]).size = 2 from rfl)
                    have hadd := fun W => run_string_add_sum (P := Tryz.prog) W X ⟨#[92, 102]⟩ (by have h1 := hL.out; omega)
                    go_wp2
                    go_roundg (gk - 1)
                    case measure => omega
                    case rel => exact ⟨k + 1, _, by omega, rfl, by rw [ByteArray.size_append]; have h1 := hL.out; omega, by go_num, HO.out⟩
                  · have n12 : ((n : Int) == 12) = false := by rw [beq_eq_false_iff_ne]; omega
                    by_cases h32 : (n : Int) < 32
                    · obtain ⟨a, ha⟩ : ∃ a : Nat, a = n / 16 := ⟨_, rfl⟩
                      obtain ⟨b, hb⟩ : ∃ b : Nat, b = n % 16 := ⟨_, rfl⟩
                      have q1 : (n : Int) / 16 = (a : Int) := by omega
                      have q2 : (n : Int) % 16 = (b : Int) := by omega
                      have b1 : a ≤ 15 ∧ b ≤ 15 := by omega
                      obtain ⟨b1, b2⟩ := b1
                      have u1 : IntKind.u8.wrap ((a : Int) + 1) = (a : Int) + 1 := u8_wrap _ (by omega)
                      have u2 : IntKind.u8.wrap ((b : Int) + 1) = (b : Int) + 1 := u8_wrap _ (by omega)
                      clear ha hb
                      go_upto_region 20 with (fail)
                      go_quiet (fail)
                      go_wp2
                      go_roundg (gk - 1)
                      case measure => omega
                      case rel => exact ⟨k + 1, _, by omega, rfl, by rw [ByteArray.size_append, ByteArray.size_append, ByteArray.size_append]; have h1 := extract_size ⟨#[48, 49, 50, 51, 52, 53, 54, 55, 56, 57, 97, 98, 99, 100, 101, 102]⟩ a (a + 1); have h2 := extract_size ⟨#[48, 49, 50, 51, 52, 53, 54, 55, 56, 57, 97, 98, 99, 100, 101, 102]⟩ b (b + 1); have h3 : (ByteArray.mk #[92, 117, 48, 48]).size = 4 := rfl; omega, by go_num, HO.out.drewN _⟩
                    · have h32b : decide ((n : Int) < 32) = false := decide_eq_false h32
                      by_cases hv : n = 127
                      · subst hv
                        go_wp2
                        go_ret2
                        exact ⟨_, _, rfl, Nat.zero_le _, HO.out⟩
                      · have n127 : ((n : Int) == 127) = false := by rw [beq_eq_false_iff_ne]; omega
                        have hob := HOB.out k hlt
                        obtain ⟨x, hx⟩ : ∃ x, x = s.extract k (k + 1) := ⟨_, rfl⟩
                        have hL := Lib.hid (show x.size = 1 by rw [hx, hob]; rfl)
                        have hxs := hx.symm
                        have hadd := fun W => run_string_add_sum (P := Tryz.prog) W X x (by have h1 := hL.out; omega)
                        clear hob hx
                        go_wp2
                        go_roundg (gk - 1)
                        case measure => omega
                        case rel => exact ⟨k + 1, _, by omega, rfl, by rw [ByteArray.size_append]; have h1 := hL.out; omega, by go_num, HO.out⟩
    · have hadd := fun W => run_string_add_sum (P := Tryz.prog) W X ⟨#[34]⟩ (by have h1 : (ByteArray.mk #[34]).size = 1 := rfl; omega)
      obtain rfl : k = s.size := by omega
      go_wp2
      go_ret2
      exact ⟨_, _, rfl, by rw [ByteArray.size_append]; have h1 : (ByteArray.mk #[34]).size = 1 := rfl; omega, HO.out⟩
end Go.Proofs.YthggnkmlnjlggaaGreatDoor
namespace Go.Proofs.YthggnkmlnjlggaaGreatDoor
open Go.RowKit
attribute [local go_sem ↓] Go.wp_at_zero Go.wp_at_succ

def JsAns (N : Nat) (w : World) (e : Ending) (w' : World) : Prop := ∃ s how, e = .returned (.tuple #[.string s, .int .i64 how]) ∧ s.size + 12500 ≤ 25000 * N ∧ Old w w'
def JsonOk (v : V) : Prop := ∀ (w : World) (ok : Nat → Prop) (c0 c1 c2 c3 c4 c5 : Value), KV w ok v [c0, c1, c2, c3, c4, c5] → Calls Tryz.prog 23 #[.agg #[c0, c1, c2, c3, c4, c5]] w (JsAns (nodes v) w)
theorem nsum_le (l : List V) (k : Nat) : nsum l k ≤ nodesL l := by
  have h := nodesL_append (l.take k) (l.drop k)
  rw [List.take_append_drop] at h
  unfold nsum
  omega
set_option maxHeartbeats 2000000 in
set_option maxRecDepth 100000 in
theorem json_leaf {v : V} (hg : Good v) (hs : v.text.size ≤ 2000) (hk : v.kind ≤ 4) : JsonOk v := by
  intro w ok c0 c1 c2 c3 c4 c5 hc
  obtain ⟨A1, n1, m1, A2, n2, m2, A3, n3, m3, rfl, rfl, rfl, rfl, rfl, rfl⟩ := shape hc
  have h0 : 0 ≤ v.kind ∧ (-18014398509481984 ≤ v.half ∧ v.half ≤ 18014398509481984) := by
    cases hg with
    | mk k h t l ks vs k0 k6 hk tk lk kk kv hh ht hl hv hks hkt gl gv => exact ⟨k0, hh.1, hh.2.1⟩
  have HNP := Lib.hid (nodes_pos v)
  obtain ⟨N, hN⟩ : ∃ N, N = nodes v := ⟨_, rfl⟩
  rw [← hN] at HNP ⊢
  generalize v.kind = kd at *
  generalize v.half = hf at *
  generalize v.text = tx at *
  have HF := Lib.hid (fun W => figures_any hf h0.2 W)
  have HQ := Lib.hid (fun W => quoted_any tx (by omega) W)
  have HTX := Lib.hid hs
  clear hN hc hg hs
  obtain ⟨h0, _⟩ := h0
  rcases (show kd = 0 ∨ kd = 1 ∨ kd = 2 ∨ kd = 3 ∨ kd = 4 by omega) with rfl | rfl | rfl | rfl | rfl
  all_goals
    clear h0 hk
    go_enter Tryz.func23, Tryz.ntmps23
    go_wp2_with (first
      | (go_at_call 38; go_must (refine (HF.out _).mono ?_; rintro e w2 ⟨s, how, rfl, _, rfl, hsz⟩; have HS := Lib.hid hsz; clear hsz))
      | (go_at_call 39; go_must (refine (HQ.out _).mono ?_; rintro e w2 ⟨s, how, rfl, hsz, ho⟩; have HS := Lib.hid hsz; have HO := Lib.hid ho; clear hsz ho)))
    go_ret2
  · exact ⟨_, _, rfl, by have h1 : (ByteArray.mk #[110, 117, 108, 108]).size = 4 := rfl; have := HNP.out; omega, (Old.refl w).alloc _⟩
  · exact ⟨_, _, rfl, by have h1 : (ByteArray.mk #[102, 97, 108, 115, 101]).size = 5 := rfl; have := HNP.out; omega, (Old.refl w).alloc _⟩
  · exact ⟨_, _, rfl, by have h1 : (ByteArray.mk #[116, 114, 117, 101]).size = 4 := rfl; have := HNP.out; omega, (Old.refl w).alloc _⟩
  · exact ⟨_, _, rfl, by have := HNP.out; have := HS.out; omega, (Old.refl w).alloc _⟩
  · exact ⟨_, _, rfl, by have := HNP.out; have := HS.out; have := HTX.out; omega, ((Old.refl w).alloc _).trans HO.out⟩
set_option maxHeartbeats 16000000 in
set_option maxRecDepth 100000 in
theorem json_five (h : Int) (t : ByteArray) (l : List V) (ks : List ByteArray) (vs : List V) (hls : l.length ≤ 400) (hvs : vs = []) (hN : nodesL l ≤ 400) (ih : ∀ x ∈ l, JsonOk x) : JsonOk (.mk 5 h t l ks vs) := by
  intro w ok c0 c1 c2 c3 c4 c5 hc
  obtain ⟨v1, v2, v3, C1, C3, hcs, s1, r1, s2, s3, r3⟩ := hc.form
  simp only [List.cons.injEq, and_true] at hcs
  obtain ⟨rfl, rfl, rfl, rfl, rfl, rfl⟩ := hcs
  subst hvs
  have HM := Lib.hid (show nodes (.mk 5 h t l ks []) = 1 + nodesL l by simp [nodes, nodesL])
  obtain ⟨A1, m1, rfl, hn1⟩ := s1.len
  obtain ⟨A2, m2, rfl, hn2⟩ := s2.len
  obtain ⟨A3, m3, rfl, hn3⟩ := s3.len
  have KL := Lib.hid (show KVs w ok l (.slice A1 l.length m1) from ⟨C1, s1, r1⟩)
  have KW := Lib.hid (show KVs w ok [] (.slice A3 ([] : List V).length m3) from ⟨C3, s3, r3⟩)
  obtain ⟨N, hNN⟩ : ∃ N, N = nodes (.mk 5 h t l ks []) := ⟨_, rfl⟩
  rw [← hNN] at HM ⊢
  obtain ⟨n, hn⟩ : ∃ x, x = l.length := ⟨_, rfl⟩
  obtain ⟨n2, hn2e⟩ : ∃ x, x = ks.length := ⟨_, rfl⟩
  rw [← hn2e] at hn2 ⊢
  rw [← hn] at hn1 hls ⊢
  show Calls _ _ #[.agg #[.int .i64 5, .int .i64 h, .string t, .slice A1 n m1, .slice A2 n2 m2, .slice A3 0 m3]] _ _
  have HNL := Lib.hid hn
  have IH := Lib.hid ih
  have HNN := Lib.hid hN
  obtain ⟨iv, hi, hz0, hz1, hz2⟩ := info_parts Tryz.infoVal
  have HI := Lib.hid hi
  have HZ0 := Lib.hid hz0
  have HZ1 := Lib.hid hz1
  have HZ2 := Lib.hid hz2
  clear hc s1 r1 s2 s3 r3 hn hNN ih hN hi hz0 hz1 hz2 hn2e
  obtain ⟨w1, hw1⟩ : ∃ x, x = w.alloc (.cells #[.int .i64 5, .int .i64 h, .string t, .slice A1 n m1, .slice A2 n2 m2, .slice A3 0 m3] 26) := ⟨_, rfl⟩
  have HO1 := Lib.hid (show Old w w1 by rw [hw1]; exact (Old.refl w).alloc _)
  have hbx : Blk w1 w.heap.size #[.int .i64 5, .int .i64 h, .string t, .slice A1 n m1, .slice A2 n2 m2, .slice A3 0 m3] 26 := by rw [hw1]; exact Blk.new _ _ _
  have BX := Lib.hid hbx
  have x0 : w1.cell? ⟨w.heap.size, 0, none⟩ = some (.int .i64 5) := hbx.cell 0
  have x1 : w1.cell? ⟨w.heap.size, 1, none⟩ = some (.int .i64 h) := hbx.cell 1
  have x2 : w1.cell? ⟨w.heap.size, 2, none⟩ = some (.string t) := hbx.cell 2
  have x3 : w1.cell? ⟨w.heap.size, 3, none⟩ = some (.slice A1 n m1) := hbx.cell 3
  have x4 : w1.cell? ⟨w.heap.size, 4, none⟩ = some (.slice A2 n2 m2) := hbx.cell 4
  have x5 : w1.cell? ⟨w.heap.size, 5, none⟩ = some (.slice A3 0 m3) := hbx.cell 5
  have hbl := hbx.lt
  clear hbx
  go_enter Tryz.func23, Tryz.ntmps23
  go_upto_region 1 with (fail)
  rw [← hw1]
  clear hw1
  go_upto_region 17 with (fail)
  have hB0 : Blk w1.drew w.heap.size #[.int .i64 5, .int .i64 h, .string t, .slice A1 n m1, .slice A2 n2 m2, .slice A3 0 m3] 26 := BX.out.drew
  refine AnyL.region 9 (S := Til 6 (fun w' => Blk w' w.heap.size #[.int .i64 5, .int .i64 h, .string t, .slice A1 n m1, .slice A2 n2 m2, .slice A3 0 m3] 26)) rfl (by kernel_rfl) (fun hC => ?_)
  have hS : Til 6 (fun w' => Blk w' w.heap.size #[.int .i64 5, .int .i64 h, .string t, .slice A1 n m1, .slice A2 n2 m2, .slice A3 0 m3] 26) (Array.replicate 9 false) w1.drew := Til.mk hB0
  refine AnyL.take (i := 1) (v := .pointer (some ⟨w.heap.size, 3, none⟩)) (some 65) (fun _ => True) rfl (by kernel_rfl) (by kernel_rfl) (by kernel_rfl) (fun _ _ _ h => h) (fun _ _ _ _ _ => trivial) (fun l w' => Til.set (by decide) l w') (fun _ ho => by cases ho; exact Or.inl ⟨by rfl, fun w' _ => by go_simp⟩) hC hS (fun hC hS => ?_)
  simp only [Act.put, List.setIfInBounds_toArray, List.set_cons_zero, List.set_cons_succ]
  refine AnyL.take (i := 4) (v := .pointer (some ⟨w.heap.size, 5, none⟩)) (some 68) (fun _ => True) rfl (by kernel_rfl) (by kernel_rfl) (by kernel_rfl) (fun _ _ _ h => h) (fun _ _ _ _ _ => trivial) (fun l w' => Til.set (by decide) l w') (fun _ ho => by cases ho; exact Or.inl ⟨by rfl, fun w' _ => by go_simp⟩) hC hS (fun hC hS => ?_)
  simp only [Act.put, List.setIfInBounds_toArray, List.set_cons_zero, List.set_cons_succ]
  refine AnyL.take (i := 8) (v := .int .i64 0) (some 72) (fun _ => True) rfl (by kernel_rfl) (by kernel_rfl) (by kernel_rfl) (fun _ _ _ h => h) (fun _ _ _ _ _ => trivial) (fun l w' => Til.set (by decide) l w') (fun _ ho => by cases ho; exact Or.inl ⟨by rfl, fun w' _ => by go_simp⟩) hC hS (fun hC hS => ?_)
  simp only [Act.put, List.setIfInBounds_toArray, List.set_cons_zero, List.set_cons_succ]
  refine AnyL.take (i := 2) (v := .slice A1 n m1) (some 66) (fun w' => Blk w' w.heap.size #[.int .i64 5, .int .i64 h, .string t, .slice A1 n m1, .slice A2 n2 m2, .slice A3 0 m3] 26) rfl (by kernel_rfl) (by kernel_rfl) (by kernel_rfl) (fun _ _ _ h => h) (fun l w' hC hl hS => hS (hC.un (j := 6) (i := 3) (by kernel_rfl) (hC.un (j := 3) (i := 2) (by kernel_rfl) hl))) (fun l w' => Til.set (by decide) l w') (fun _ ho => by cases ho; exact Or.inl ⟨by rfl, fun w' hB => by have h0 := hB.cell 3; go_simp⟩) hC hS (fun hC hS => ?_)
  simp only [Act.put, List.setIfInBounds_toArray, List.set_cons_zero, List.set_cons_succ]
  refine AnyL.take (i := 5) (v := .slice A3 0 m3) (some 69) (fun w' => Blk w' w.heap.size #[.int .i64 5, .int .i64 h, .string t, .slice A1 n m1, .slice A2 n2 m2, .slice A3 0 m3] 26) rfl (by kernel_rfl) (by kernel_rfl) (by kernel_rfl) (fun _ _ _ h => h) (fun l w' hC hl hS => hS (hC.un (j := 6) (i := 5) (by kernel_rfl) hl)) (fun l w' => Til.set (by decide) l w') (fun _ ho => by cases ho; exact Or.inl ⟨by rfl, fun w' hB => by have h0 := hB.cell 5; go_simp⟩) hC hS (fun hC hS => ?_)
  simp only [Act.put, List.setIfInBounds_toArray, List.set_cons_zero, List.set_cons_succ]
  clear hS
  obtain ⟨Ca, hca, hta⟩ := KL.out.taken
  obtain ⟨Cb, hcb, htb⟩ := KW.out.taken
  have HCA := Lib.hid hca
  have HCB := Lib.hid hcb
  have HTA := Lib.hid hta
  have HTB := Lib.hid htb
  clear hca hcb hta htb
  rw [← HNL.out] at HTA
  refine AnyL.nxt 0 (by kernel_rfl) hC (fun o ho K hK => ?_)
  cases ho
  go_simp
  refine hK.out _ _ (Til.mk (hB0.alloc _)) (fun hC hS => ?_)
  clear hK K hS
  have HO2 := Lib.hid (show Old w1 (w1.drew.alloc (.cells #[] 26)) from ((Old.refl w1).drew).alloc _)
  refine AnyL.nxt 3 (by kernel_rfl) hC (fun o ho K hK => ?_)
  cases ho
  refine step_joinV (by rfl) (.tmp 64) (.tmp 66) (by rfl) w1.heap.size iv HI.out HZ0.out HZ1.out HZ2.out w1.heap.size 0 0 [] (by rfl) (World.ownsRow_made w1.drew #[] 0 (Nat.le_refl _) (by decide) rfl) _ (by rfl) n _ (HTA.out.old (HO1.out.trans HO2.out)) (by omega) (by simp) ?_
  intro g c w2 hown hg
  rw [Nat.zero_add]
  rw [Nat.zero_add, List.nil_append] at hown
  have hold3 := HO2.out.grown hg (fun k hk => by cases hk; exact Nat.le_refl _)
  have HW2 := Lib.hid hown
  have HO3 := Lib.hid hold3
  refine hK.out _ _ (Til.mk (BX.out.old hold3)) (fun hC hS => ?_)
  clear hK K hS hown hg hold3
  refine AnyL.nxt 6 (by kernel_rfl) hC (fun o ho K hK => ?_)
  cases ho
  refine step_joinV (by rfl) (.tmp 67) (.tmp 69) (by rfl) w1.heap.size iv HI.out HZ0.out HZ1.out HZ2.out g n c _ (by rfl) HW2.out _ (by rfl) 0 _ (HTB.out.old (HO1.out.trans HO3.out)) (by omega) HO3.out.size ?_
  intro g2 c2 w3 hown hg
  have hlt2 := (HW2.out.lt g rfl).1
  have hold4 := HO3.out.grown hg (fun k hk => by cases hk; exact hlt2)
  rw [Nat.add_zero]
  have HW3 := Lib.hid hown
  have HO4 := Lib.hid hold4
  refine hK.out _ _ (Til.late (by rfl)) (fun hC hS => ?_)
  clear hK K hS hown hg hold4 hlt2
  refine AnyL.nxt 7 (by kernel_rfl) hC (fun o ho K hK => ?_)
  cases ho
  go_simp
  refine hK.out _ _ (Til.late (by rfl)) (fun hC hS => ?_)
  clear hK K hS
  refine AnyL.done (by kernel_rfl) ?_ _
  clear hC x0 x1 x2 x3 x4 x5 hbl hB0
  go_wp2
  have hkv3 : KVs w3 (fun _ => True) l (.slice (some ⟨g2, 0, none⟩) n c2) := by
    have hq := HW3.out
    rw [HNL.out] at hq
    have := KVs.join (la := l) (lb := []) HCA.out HCB.out (HO1.out.trans HO4.out) hq
    rw [List.append_nil] at this
    rw [HNL.out]
    exact this
  have HK3 := Lib.hid hkv3
  clear hkv3
  have HO5 := Lib.hid (HO1.out.trans HO4.out)
  have BX3 := Lib.hid (BX.out.old HO4.out)
  go_loopg [4, 72] n (fun gk s4 s72 wr => ∃ k X, k + gk = n ∧ s4 = .string X ∧ X.size ≤ 25000 * nsum l k ∧ s72 = .int .i64 (k : Nat) ∧ Old w3 wr)
  case atStart => exact ⟨0, _, by omega, rfl, Nat.zero_le _, by go_num, Old.refl _⟩
  case round =>
    obtain ⟨k, X, hk, rfl, hX, rfl, hold⟩ := hrel
    have HO := Lib.hid hold
    have HXS := Lib.hid hX
    have hXb : X.size ≤ 10000000 := by have h1 := nsum_le l k; have h2 := HNN.out; omega
    have bx := BX3.out.old hold
    have x0 : wr.cell? ⟨w.heap.size, 0, none⟩ = some (.int .i64 5) := bx.cell 0
    have x1 : wr.cell? ⟨w.heap.size, 1, none⟩ = some (.int .i64 h) := bx.cell 1
    have x2 : wr.cell? ⟨w.heap.size, 2, none⟩ = some (.string t) := bx.cell 2
    have x3 : wr.cell? ⟨w.heap.size, 3, none⟩ = some (.slice A1 n m1) := bx.cell 3
    have x4 : wr.cell? ⟨w.heap.size, 4, none⟩ = some (.slice A2 n2 m2) := bx.cell 4
    have x5 : wr.cell? ⟨w.heap.size, 5, none⟩ = some (.slice A3 0 m3) := bx.cell 5
    have hbl := bx.lt
    have BXR := Lib.hid bx
    clear bx hX
    by_cases hlt : k < n
    · obtain ⟨b, o, d0, d1, d2, d3, d4, d5, hbo, hb, hkv, e0, e1, e2, e3, e4, e5⟩ := six (w := wr) (ok := fun _ => True) (l := l) (m := n) (c := c2) (by obtain ⟨C, s, r⟩ := HK3.out; exact ⟨C, s.old HO.out, fun i hi => (r i hi).old HO.out⟩) k (by rw [← HNL.out]; exact hlt)
      cases hbo
      obtain ⟨B1, q1, p1, B2, q2, p2, B3, q3, p3, rfl, rfl, rfl, rfl, rfl, rfl⟩ := shape hkv
      have HNS := Lib.hid (nsum_succ l k (by rw [← HNL.out]; exact hlt))
      have HJ0 := Lib.hid (IH.out _ (List.getElem_mem (show k < l.length by rw [← HNL.out]; exact hlt)))
      rw [nth_eq] at HNS HJ0
      have HJC := Lib.hid (HJ0.out (wr.alloc (.cells #[.int .i64 (nth l k).kind, .int .i64 (nth l k).half, .string (nth l k).text, .slice B1 q1 p1, .slice B2 q2 p2, .slice B3 q3 p3] 26)) _ _ _ _ _ _ _ (hkv.old ((Old.refl wr).alloc _)))
      have hnb : nodes (nth l k) ≤ 400 := by have h1 := HNS.out; have h2 := nsum_le l (k + 1); have h3 := HNN.out; omega
      generalize nodes (nth l k) = Nk at *
      generalize (nth l k).kind = kd at *
      generalize (nth l k).half = hf at *
      generalize (nth l k).text = tx at *
      have hkn : (k : Int) < (n : Nat) := by omega
      have t1 : IntKind.i64.wrap ((k : Int) + 1) = (k : Int) + 1 := IntWalk.i64_in _ (by omega)
      clear hkv HJ0
      by_cases h0 : k = 0
      · subst h0
        simp only [Nat.zero_mul, Nat.add_zero] at e0 e1 e2 e3 e4 e5
        go_wp2_with (go_at_call 23; go_must (refine HJC.out.mono ?_; rintro e w4 ⟨s, how, rfl, hs, ho4⟩; have ho4b := ((Old.refl wr).alloc _).trans ho4; have HO6 := Lib.hid (HO.out.trans ho4b); have HS := Lib.hid hs; have hadd := fun W => run_string_add_sum (P := Tryz.prog) W X s (by have h9 : (ByteArray.mk #[44]).size = 1 := rfl; omega); clear hs ho4 ho4b; by_cases hh : how = 0))
        · subst hh
          go_wp2
          go_roundg (gk - 1)
          case measure => omega
          case rel => exact ⟨0 + 1, _, by omega, rfl, by rw [ByteArray.size_append, HNS.out]; have h1 := HXS.out; have h2 := HS.out; have h9 : (ByteArray.mk #[44]).size = 1 := rfl; omega, by go_num, HO6.out⟩
        · have hh1 : (how == 0) = false := by simpa using hh
          have hh2 : (how != 0) = true := by simpa using hh
          go_wp2
          go_ret2
          exact ⟨_, _, rfl, by have h1 : (ByteArray.mk #[]).size = 0 := rfl; have := HM.out; omega, HO5.out.trans HO6.out⟩
      · skip
        simp only [Nat.zero_add] at e0 e1 e2 e3 e4 e5
        have hk0 : (0 : Int) < (k : Nat) := by omega
        have hadd9 := fun W => run_string_add_sum (P := Tryz.prog) W X ⟨#[44]⟩ (by have h9 : (ByteArray.mk #[44]).size = 1 := rfl; omega)
        go_wp2_with (go_at_call 23; go_must (refine HJC.out.mono ?_; rintro e w4 ⟨s, how, rfl, hs, ho4⟩; have ho4b := ((Old.refl wr).alloc _).trans ho4; have HO6 := Lib.hid (HO.out.trans ho4b); have HS := Lib.hid hs; have hadd := fun W => run_string_add_sum (P := Tryz.prog) W (X ++ ⟨#[44]⟩) s (by rw [ByteArray.size_append]; have h9 : (ByteArray.mk #[44]).size = 1 := rfl; omega); clear hs ho4 ho4b; by_cases hh : how = 0))
        · subst hh
          go_wp2
          go_roundg (gk - 1)
          case measure => omega
          case rel => exact ⟨k + 1, _, by omega, rfl, by rw [ByteArray.size_append, ByteArray.size_append, HNS.out]; have h1 := HXS.out; have h2 := HS.out; have h9 : (ByteArray.mk #[44]).size = 1 := rfl; omega, by go_num, HO6.out⟩
        · have hh1 : (how == 0) = false := by simpa using hh
          have hh2 : (how != 0) = true := by simpa using hh
          go_wp2
          go_ret2
          exact ⟨_, _, rfl, by have h1 : (ByteArray.mk #[]).size = 0 := rfl; have := HM.out; omega, HO5.out.trans HO6.out⟩
    · obtain rfl : k = n := by omega
      have hadd1 := fun W => run_string_add_sum (P := Tryz.prog) W ⟨#[91]⟩ X (by have h9 : (ByteArray.mk #[91]).size = 1 := rfl; omega)
      have hadd2 := fun W => run_string_add_sum (P := Tryz.prog) W (⟨#[91]⟩ ++ X) ⟨#[93]⟩ (by rw [ByteArray.size_append]; have h9 : (ByteArray.mk #[91]).size = 1 := rfl; have h8 : (ByteArray.mk #[93]).size = 1 := rfl; omega)
      go_wp2
      go_ret2
      exact ⟨_, _, rfl, by rw [ByteArray.size_append, ByteArray.size_append]; have h9 : (ByteArray.mk #[91]).size = 1 := rfl; have h8 : (ByteArray.mk #[93]).size = 1 := rfl; have h1 := HXS.out; have h2 := nsum_le l k; have := HM.out; omega, HO5.out.trans HO.out⟩
set_option maxHeartbeats 16000000 in
set_option maxRecDepth 100000 in
theorem json_six (h : Int) (t : ByteArray) (l : List V) (ks : List ByteArray) (vs : List V) (hvl : vs.length ≤ 400) (hls : l = []) (hkv : ks.length = vs.length) (hks : ∀ s ∈ ks, s.size ≤ 2000) (hN : nodesL vs ≤ 400) (ih : ∀ x ∈ vs, JsonOk x) : JsonOk (.mk 6 h t l ks vs) := by
  intro w ok c0 c1 c2 c3 c4 c5 hc
  obtain ⟨v1, v2, v3, C1, C3, hcs, s1, r1, s2, s3, r3⟩ := hc.form
  simp only [List.cons.injEq, and_true] at hcs
  obtain ⟨rfl, rfl, rfl, rfl, rfl, rfl⟩ := hcs
  subst hls
  have HM := Lib.hid (show nodes (.mk 6 h t [] ks vs) = 1 + nodesL vs by simp [nodes, nodesL])
  obtain ⟨A1, m1, rfl, hn1⟩ := s1.len
  obtain ⟨A2, m2, rfl, hn2⟩ := s2.len
  obtain ⟨A3, m3, rfl, hn3⟩ := s3.len
  have KL := Lib.hid (show KVs w ok [] (.slice A1 ([] : List V).length m1) from ⟨C1, s1, r1⟩)
  have KW := Lib.hid (show KVs w ok vs (.slice A3 vs.length m3) from ⟨C3, s3, r3⟩)
  have HKZ := Lib.hid hks
  have HKV := Lib.hid hkv
  obtain ⟨N, hNN⟩ : ∃ N, N = nodes (.mk 6 h t [] ks vs) := ⟨_, rfl⟩
  rw [← hNN] at HM ⊢
  obtain ⟨n, hn⟩ : ∃ x, x = vs.length := ⟨_, rfl⟩
  have HKS := Lib.hid (show SliceV w ok (.slice A2 n m2) 1 ks.length (fun i => [.string (ks.getD i nilS)]) by rw [hn, ← hkv]; exact s2)
  rw [hkv, ← hn] at hn2 ⊢
  rw [← hn] at hn3 hvl
  show Calls _ _ #[.agg #[.int .i64 6, .int .i64 h, .string t, .slice A1 0 m1, .slice A2 n m2, .slice A3 n m3]] _ _
  have HNL := Lib.hid hn
  have IH := Lib.hid ih
  have HNN := Lib.hid hN
  obtain ⟨iv, hi, hz0, hz1, hz2⟩ := info_parts Tryz.infoVal
  have HI := Lib.hid hi
  have HZ0 := Lib.hid hz0
  have HZ1 := Lib.hid hz1
  have HZ2 := Lib.hid hz2
  clear hc s1 r1 s2 s3 r3 hn hNN ih hN hi hz0 hz1 hz2 hkv hks
  obtain ⟨w1, hw1⟩ : ∃ x, x = w.alloc (.cells #[.int .i64 6, .int .i64 h, .string t, .slice A1 0 m1, .slice A2 n m2, .slice A3 n m3] 26) := ⟨_, rfl⟩
  have HO1 := Lib.hid (show Old w w1 by rw [hw1]; exact (Old.refl w).alloc _)
  have hbx : Blk w1 w.heap.size #[.int .i64 6, .int .i64 h, .string t, .slice A1 0 m1, .slice A2 n m2, .slice A3 n m3] 26 := by rw [hw1]; exact Blk.new _ _ _
  have BX := Lib.hid hbx
  have x0 : w1.cell? ⟨w.heap.size, 0, none⟩ = some (.int .i64 6) := hbx.cell 0
  have x1 : w1.cell? ⟨w.heap.size, 1, none⟩ = some (.int .i64 h) := hbx.cell 1
  have x2 : w1.cell? ⟨w.heap.size, 2, none⟩ = some (.string t) := hbx.cell 2
  have x3 : w1.cell? ⟨w.heap.size, 3, none⟩ = some (.slice A1 0 m1) := hbx.cell 3
  have x4 : w1.cell? ⟨w.heap.size, 4, none⟩ = some (.slice A2 n m2) := hbx.cell 4
  have x5 : w1.cell? ⟨w.heap.size, 5, none⟩ = some (.slice A3 n m3) := hbx.cell 5
  have hbl := hbx.lt
  clear hbx
  go_enter Tryz.func23, Tryz.ntmps23
  go_upto_region 1 with (fail)
  rw [← hw1]
  clear hw1
  go_upto_region 17 with (fail)
  have hB0 : Blk w1.drew w.heap.size #[.int .i64 6, .int .i64 h, .string t, .slice A1 0 m1, .slice A2 n m2, .slice A3 n m3] 26 := BX.out.drew
  refine AnyL.region 9 (S := Til 6 (fun w' => Blk w' w.heap.size #[.int .i64 6, .int .i64 h, .string t, .slice A1 0 m1, .slice A2 n m2, .slice A3 n m3] 26)) rfl (by kernel_rfl) (fun hC => ?_)
  have hS : Til 6 (fun w' => Blk w' w.heap.size #[.int .i64 6, .int .i64 h, .string t, .slice A1 0 m1, .slice A2 n m2, .slice A3 n m3] 26) (Array.replicate 9 false) w1.drew := Til.mk hB0
  refine AnyL.take (i := 1) (v := .pointer (some ⟨w.heap.size, 3, none⟩)) (some 65) (fun _ => True) rfl (by kernel_rfl) (by kernel_rfl) (by kernel_rfl) (fun _ _ _ h => h) (fun _ _ _ _ _ => trivial) (fun l w' => Til.set (by decide) l w') (fun _ ho => by cases ho; exact Or.inl ⟨by rfl, fun w' _ => by go_simp⟩) hC hS (fun hC hS => ?_)
  simp only [Act.put, List.setIfInBounds_toArray, List.set_cons_zero, List.set_cons_succ]
  refine AnyL.take (i := 4) (v := .pointer (some ⟨w.heap.size, 5, none⟩)) (some 68) (fun _ => True) rfl (by kernel_rfl) (by kernel_rfl) (by kernel_rfl) (fun _ _ _ h => h) (fun _ _ _ _ _ => trivial) (fun l w' => Til.set (by decide) l w') (fun _ ho => by cases ho; exact Or.inl ⟨by rfl, fun w' _ => by go_simp⟩) hC hS (fun hC hS => ?_)
  simp only [Act.put, List.setIfInBounds_toArray, List.set_cons_zero, List.set_cons_succ]
  refine AnyL.take (i := 8) (v := .int .i64 0) (some 72) (fun _ => True) rfl (by kernel_rfl) (by kernel_rfl) (by kernel_rfl) (fun _ _ _ h => h) (fun _ _ _ _ _ => trivial) (fun l w' => Til.set (by decide) l w') (fun _ ho => by cases ho; exact Or.inl ⟨by rfl, fun w' _ => by go_simp⟩) hC hS (fun hC hS => ?_)
  simp only [Act.put, List.setIfInBounds_toArray, List.set_cons_zero, List.set_cons_succ]
  refine AnyL.take (i := 2) (v := .slice A1 0 m1) (some 66) (fun w' => Blk w' w.heap.size #[.int .i64 6, .int .i64 h, .string t, .slice A1 0 m1, .slice A2 n m2, .slice A3 n m3] 26) rfl (by kernel_rfl) (by kernel_rfl) (by kernel_rfl) (fun _ _ _ h => h) (fun l w' hC hl hS => hS (hC.un (j := 6) (i := 3) (by kernel_rfl) (hC.un (j := 3) (i := 2) (by kernel_rfl) hl))) (fun l w' => Til.set (by decide) l w') (fun _ ho => by cases ho; exact Or.inl ⟨by rfl, fun w' hB => by have h0 := hB.cell 3; go_simp⟩) hC hS (fun hC hS => ?_)
  simp only [Act.put, List.setIfInBounds_toArray, List.set_cons_zero, List.set_cons_succ]
  refine AnyL.take (i := 5) (v := .slice A3 n m3) (some 69) (fun w' => Blk w' w.heap.size #[.int .i64 6, .int .i64 h, .string t, .slice A1 0 m1, .slice A2 n m2, .slice A3 n m3] 26) rfl (by kernel_rfl) (by kernel_rfl) (by kernel_rfl) (fun _ _ _ h => h) (fun l w' hC hl hS => hS (hC.un (j := 6) (i := 5) (by kernel_rfl) hl)) (fun l w' => Til.set (by decide) l w') (fun _ ho => by cases ho; exact Or.inl ⟨by rfl, fun w' hB => by have h0 := hB.cell 5; go_simp⟩) hC hS (fun hC hS => ?_)
  simp only [Act.put, List.setIfInBounds_toArray, List.set_cons_zero, List.set_cons_succ]
  clear hS
  obtain ⟨Ca, hca, hta⟩ := KL.out.taken
  obtain ⟨Cb, hcb, htb⟩ := KW.out.taken
  have HCA := Lib.hid hca
  have HCB := Lib.hid hcb
  have HTA := Lib.hid hta
  have HTB := Lib.hid htb
  clear hca hcb hta htb
  rw [← HNL.out] at HTB
  refine AnyL.nxt 0 (by kernel_rfl) hC (fun o ho K hK => ?_)
  cases ho
  go_simp
  refine hK.out _ _ (Til.mk (hB0.alloc _)) (fun hC hS => ?_)
  clear hK K hS
  have HO2 := Lib.hid (show Old w1 (w1.drew.alloc (.cells #[] 26)) from ((Old.refl w1).drew).alloc _)
  refine AnyL.nxt 3 (by kernel_rfl) hC (fun o ho K hK => ?_)
  cases ho
  refine step_joinV (by rfl) (.tmp 64) (.tmp 66) (by rfl) w1.heap.size iv HI.out HZ0.out HZ1.out HZ2.out w1.heap.size 0 0 [] (by rfl) (World.ownsRow_made w1.drew #[] 0 (Nat.le_refl _) (by decide) rfl) _ (by rfl) 0 _ (HTA.out.old (HO1.out.trans HO2.out)) (by omega) (by simp) ?_
  intro g c w2 hown hg
  rw [Nat.zero_add]
  rw [Nat.zero_add, List.nil_append] at hown
  have hold3 := HO2.out.grown hg (fun k hk => by cases hk; exact Nat.le_refl _)
  have HW2 := Lib.hid hown
  have HO3 := Lib.hid hold3
  refine hK.out _ _ (Til.mk (BX.out.old hold3)) (fun hC hS => ?_)
  clear hK K hS hown hg hold3
  refine AnyL.nxt 6 (by kernel_rfl) hC (fun o ho K hK => ?_)
  cases ho
  refine step_joinV (by rfl) (.tmp 67) (.tmp 69) (by rfl) w1.heap.size iv HI.out HZ0.out HZ1.out HZ2.out g 0 c _ (by rfl) HW2.out _ (by rfl) n _ (HTB.out.old (HO1.out.trans HO3.out)) (by omega) HO3.out.size ?_
  intro g2 c2 w3 hown hg
  have hlt2 := (HW2.out.lt g rfl).1
  have hold4 := HO3.out.grown hg (fun k hk => by cases hk; exact hlt2)
  rw [Nat.zero_add]
  have HW3 := Lib.hid hown
  have HO4 := Lib.hid hold4
  refine hK.out _ _ (Til.late (by rfl)) (fun hC hS => ?_)
  clear hK K hS hown hg hold4 hlt2
  refine AnyL.nxt 7 (by kernel_rfl) hC (fun o ho K hK => ?_)
  cases ho
  go_simp
  refine hK.out _ _ (Til.late (by rfl)) (fun hC hS => ?_)
  clear hK K hS
  refine AnyL.done (by kernel_rfl) ?_ _
  clear hC x0 x1 x2 x3 x4 x5 hbl hB0
  go_wp2
  have hkv3 : KVs w3 (fun _ => True) vs (.slice (some ⟨g2, 0, none⟩) n c2) := by
    have hq := HW3.out
    rw [HNL.out] at hq
    have := KVs.join (la := []) (lb := vs) HCA.out HCB.out (HO1.out.trans HO4.out) hq
    simp only [List.nil_append, Nat.zero_add] at this
    rw [HNL.out]
    exact this
  have HK3 := Lib.hid hkv3
  clear hkv3
  have HO5 := Lib.hid (HO1.out.trans HO4.out)
  have BX3 := Lib.hid (BX.out.old HO4.out)
  go_loopg [4, 72] n (fun gk s4 s72 wr => ∃ k X, k + gk = n ∧ s4 = .string X ∧ X.size ≤ 25000 * nsum vs k ∧ s72 = .int .i64 (k : Nat) ∧ Old w3 wr)
  case atStart => exact ⟨0, _, by omega, rfl, Nat.zero_le _, by go_num, Old.refl _⟩
  case round =>
    obtain ⟨k, X, hk, rfl, hX, rfl, hold⟩ := hrel
    have HO := Lib.hid hold
    have HXS := Lib.hid hX
    have hXb : X.size ≤ 10000000 := by have h1 := nsum_le vs k; have h2 := HNN.out; omega
    have bx := BX3.out.old hold
    have x0 : wr.cell? ⟨w.heap.size, 0, none⟩ = some (.int .i64 6) := bx.cell 0
    have x1 : wr.cell? ⟨w.heap.size, 1, none⟩ = some (.int .i64 h) := bx.cell 1
    have x2 : wr.cell? ⟨w.heap.size, 2, none⟩ = some (.string t) := bx.cell 2
    have x3 : wr.cell? ⟨w.heap.size, 3, none⟩ = some (.slice A1 0 m1) := bx.cell 3
    have x4 : wr.cell? ⟨w.heap.size, 4, none⟩ = some (.slice A2 n m2) := bx.cell 4
    have x5 : wr.cell? ⟨w.heap.size, 5, none⟩ = some (.slice A3 n m3) := bx.cell 5
    have hbl := bx.lt
    have BXR := Lib.hid bx
    clear bx hX
    by_cases hlt : k < n
    · obtain ⟨b, o, d0, d1, d2, d3, d4, d5, hbo, hb, hkv, e0, e1, e2, e3, e4, e5⟩ := six (w := wr) (ok := fun _ => True) (l := vs) (m := n) (c := c2) (by obtain ⟨C, s, r⟩ := HK3.out; exact ⟨C, s.old HO.out, fun i hi => (r i hi).old HO.out⟩) k (by rw [← HNL.out]; exact hlt)
      cases hbo
      obtain ⟨B1, q1, p1, B2, q2, p2, B3, q3, p3, rfl, rfl, rfl, rfl, rfl, rfl⟩ := shape hkv
      have HNS := Lib.hid (nsum_succ vs k (by rw [← HNL.out]; exact hlt))
      have HJ0 := Lib.hid (IH.out _ (List.getElem_mem (show k < vs.length by rw [← HNL.out]; exact hlt)))
      rw [nth_eq] at HNS HJ0
      have HJC := Lib.hid (fun W (hW : Old wr W) => HJ0.out W _ _ _ _ _ _ _ (hkv.old hW))
      have hnb : nodes (nth vs k) ≤ 400 := by have h1 := HNS.out; have h2 := nsum_le vs (k + 1); have h3 := HNN.out; omega
      generalize nodes (nth vs k) = Nk at *
      generalize (nth vs k).kind = kd at *
      generalize (nth vs k).half = hf at *
      generalize (nth vs k).text = tx at *
      have hkn : (k : Int) < (n : Nat) := by omega
      have t1 : IntKind.i64.wrap ((k : Int) + 1) = (k : Int) + 1 := IntWalk.i64_in _ (by omega)
      clear hkv HJ0
      have hkk : k < ks.length := by rw [HKV.out, ← HNL.out]; exact hlt
      obtain ⟨b4, o4, hA2, hb4, k0⟩ := keyAt (HKS.out.old (HO5.out.trans HO.out)) k hkk
      have HQZ := Lib.hid (HKZ.out _ (kth_mem ks k hkk))
      subst hA2
      generalize kth ks k = kt at *
      have HQU := Lib.hid (fun W => quoted_any kt (by have := HQZ.out; omega) W)
      have hktz := HQZ.out
      clear hkk
      by_cases h0 : k = 0
      · subst h0
        simp only [Nat.zero_mul, Nat.add_zero] at e0 e1 e2 e3 e4 e5
        try simp only [Nat.add_zero] at k0
        go_wp2_with (go_at_call 39; go_must (refine (HQU.out _).mono ?_; rintro e w4 ⟨q, howq, rfl, hq, ho4⟩; have ho4b := ((Old.refl wr).alloc _).trans ho4; have HO6 := Lib.hid (HO.out.trans ho4b); have HOR := Lib.hid ho4b; have HBK := Lib.hid ((Blk.new wr _ _).old ho4 : Blk w4 wr.heap.size #[.int .i64 kd, .int .i64 hf, .string tx, .slice B1 q1 p1, .slice B2 q2 p2, .slice B3 q3 p3] 26); have HQS := Lib.hid hq; have haddq := fun W => run_string_add_sum (P := Tryz.prog) W q ⟨#[58]⟩ (by have h9 : (ByteArray.mk #[58]).size = 1 := rfl; omega); have haddx := fun W => run_string_add_sum (P := Tryz.prog) W X (q ++ ⟨#[58]⟩) (by rw [ByteArray.size_append]; have h8 : (ByteArray.mk #[44]).size = 1 := rfl; have h9 : (ByteArray.mk #[58]).size = 1 := rfl; omega); have zz0 : w4.cell? ⟨wr.heap.size, 0, none⟩ = some (.int .i64 kd) := HBK.out.cell 0; have zz1 : w4.cell? ⟨wr.heap.size, 1, none⟩ = some (.int .i64 hf) := HBK.out.cell 1; have zz2 : w4.cell? ⟨wr.heap.size, 2, none⟩ = some (.string tx) := HBK.out.cell 2; have zz3 : w4.cell? ⟨wr.heap.size, 3, none⟩ = some (.slice B1 q1 p1) := HBK.out.cell 3; have zz4 : w4.cell? ⟨wr.heap.size, 4, none⟩ = some (.slice B2 q2 p2) := HBK.out.cell 4; have zz5 : w4.cell? ⟨wr.heap.size, 5, none⟩ = some (.slice B3 q3 p3) := HBK.out.cell 5; have zbl := HBK.out.lt; clear hq ho4 ho4b; by_cases hhq : howq = 0))
        · subst hhq
          go_wp2_with (go_at_call 23; go_must (refine (HJC.out w4 HOR.out).mono ?_; rintro e w5 ⟨s, how, rfl, hs, ho5⟩; have HO7 := Lib.hid (HO6.out.trans ho5); have HS := Lib.hid hs; have hadd := fun W => run_string_add_sum (P := Tryz.prog) W (X ++ (q ++ ⟨#[58]⟩)) s (by rw [ByteArray.size_append, ByteArray.size_append]; have h8 : (ByteArray.mk #[44]).size = 1 := rfl; have h9 : (ByteArray.mk #[58]).size = 1 := rfl; have := HQS.out; omega); clear hs ho5; by_cases hh : how = 0))
          · subst hh
            go_wp2
            go_roundg (gk - 1)
            case measure => omega
            case rel => exact ⟨0 + 1, _, by omega, rfl, by rw [ByteArray.size_append, ByteArray.size_append, ByteArray.size_append, HNS.out]; have h1 := HXS.out; have h2 := HS.out; have h3 := HQS.out; have h9 : (ByteArray.mk #[44]).size = 1 := rfl; have h8 : (ByteArray.mk #[58]).size = 1 := rfl; omega, by go_num, HO7.out⟩
          · have hh1 : (how == 0) = false := by simpa using hh
            have hh2 : (how != 0) = true := by simpa using hh
            go_wp2
            go_ret2
            exact ⟨_, _, rfl, by have h1 : (ByteArray.mk #[]).size = 0 := rfl; have := HM.out; omega, HO5.out.trans HO7.out⟩
        · have hh1 : (howq == 0) = false := by simpa using hhq
          have hh2 : (howq != 0) = true := by simpa using hhq
          go_wp2
          go_ret2
          exact ⟨_, _, rfl, by have h1 : (ByteArray.mk #[]).size = 0 := rfl; have := HM.out; omega, HO5.out.trans HO6.out⟩
      · skip
        simp only [Nat.zero_add] at e0 e1 e2 e3 e4 e5
        have hk0 : (0 : Int) < (k : Nat) := by omega
        have hadd9 := fun W => run_string_add_sum (P := Tryz.prog) W X ⟨#[44]⟩ (by have h9 : (ByteArray.mk #[44]).size = 1 := rfl; omega)
        go_wp2_with (go_at_call 39; go_must (refine (HQU.out _).mono ?_; rintro e w4 ⟨q, howq, rfl, hq, ho4⟩; have ho4b := ((Old.refl wr).alloc _).trans ho4; have HO6 := Lib.hid (HO.out.trans ho4b); have HOR := Lib.hid ho4b; have HBK := Lib.hid ((Blk.new wr _ _).old ho4 : Blk w4 wr.heap.size #[.int .i64 kd, .int .i64 hf, .string tx, .slice B1 q1 p1, .slice B2 q2 p2, .slice B3 q3 p3] 26); have HQS := Lib.hid hq; have haddq := fun W => run_string_add_sum (P := Tryz.prog) W q ⟨#[58]⟩ (by have h9 : (ByteArray.mk #[58]).size = 1 := rfl; omega); have haddx := fun W => run_string_add_sum (P := Tryz.prog) W (X ++ ⟨#[44]⟩) (q ++ ⟨#[58]⟩) (by rw [ByteArray.size_append, ByteArray.size_append]; have h8 : (ByteArray.mk #[44]).size = 1 := rfl; have h9 : (ByteArray.mk #[58]).size = 1 := rfl; omega); have zz0 : w4.cell? ⟨wr.heap.size, 0, none⟩ = some (.int .i64 kd) := HBK.out.cell 0; have zz1 : w4.cell? ⟨wr.heap.size, 1, none⟩ = some (.int .i64 hf) := HBK.out.cell 1; have zz2 : w4.cell? ⟨wr.heap.size, 2, none⟩ = some (.string tx) := HBK.out.cell 2; have zz3 : w4.cell? ⟨wr.heap.size, 3, none⟩ = some (.slice B1 q1 p1) := HBK.out.cell 3; have zz4 : w4.cell? ⟨wr.heap.size, 4, none⟩ = some (.slice B2 q2 p2) := HBK.out.cell 4; have zz5 : w4.cell? ⟨wr.heap.size, 5, none⟩ = some (.slice B3 q3 p3) := HBK.out.cell 5; have zbl := HBK.out.lt; clear hq ho4 ho4b; by_cases hhq : howq = 0))
        · subst hhq
          go_wp2_with (go_at_call 23; go_must (refine (HJC.out w4 HOR.out).mono ?_; rintro e w5 ⟨s, how, rfl, hs, ho5⟩; have HO7 := Lib.hid (HO6.out.trans ho5); have HS := Lib.hid hs; have hadd := fun W => run_string_add_sum (P := Tryz.prog) W ((X ++ ⟨#[44]⟩) ++ (q ++ ⟨#[58]⟩)) s (by rw [ByteArray.size_append, ByteArray.size_append, ByteArray.size_append]; have h8 : (ByteArray.mk #[44]).size = 1 := rfl; have h9 : (ByteArray.mk #[58]).size = 1 := rfl; have := HQS.out; omega); clear hs ho5; by_cases hh : how = 0))
          · subst hh
            go_wp2
            go_roundg (gk - 1)
            case measure => omega
            case rel => exact ⟨k + 1, _, by omega, rfl, by rw [ByteArray.size_append, ByteArray.size_append, ByteArray.size_append, ByteArray.size_append, HNS.out]; have h1 := HXS.out; have h2 := HS.out; have h3 := HQS.out; have h9 : (ByteArray.mk #[44]).size = 1 := rfl; have h8 : (ByteArray.mk #[58]).size = 1 := rfl; omega, by go_num, HO7.out⟩
          · have hh1 : (how == 0) = false := by simpa using hh
            have hh2 : (how != 0) = true := by simpa using hh
            go_wp2
            go_ret2
            exact ⟨_, _, rfl, by have h1 : (ByteArray.mk #[]).size = 0 := rfl; have := HM.out; omega, HO5.out.trans HO7.out⟩
        · have hh1 : (howq == 0) = false := by simpa using hhq
          have hh2 : (howq != 0) = true := by simpa using hhq
          go_wp2
          go_ret2
          exact ⟨_, _, rfl, by have h1 : (ByteArray.mk #[]).size = 0 := rfl; have := HM.out; omega, HO5.out.trans HO6.out⟩
    · obtain rfl : k = n := by omega
      have hadd1 := fun W => run_string_add_sum (P := Tryz.prog) W ⟨#[123]⟩ X (by have h9 : (ByteArray.mk #[123]).size = 1 := rfl; omega)
      have hadd2 := fun W => run_string_add_sum (P := Tryz.prog) W (⟨#[123]⟩ ++ X) ⟨#[125]⟩ (by rw [ByteArray.size_append]; have h9 : (ByteArray.mk #[123]).size = 1 := rfl; have h8 : (ByteArray.mk #[125]).size = 1 := rfl; omega)
      go_wp2
      go_ret2
      exact ⟨_, _, rfl, by rw [ByteArray.size_append, ByteArray.size_append]; have h9 : (ByteArray.mk #[123]).size = 1 := rfl; have h8 : (ByteArray.mk #[125]).size = 1 := rfl; have h1 := HXS.out; have h2 := nsum_le vs k; have := HM.out; omega, HO5.out.trans HO.out⟩
theorem json_all {v : V} (hg : Good v) : Small v → nodes v ≤ 400 → JsonOk v := by
  induction hg with
  | mk k h t l ks vs k0 k6 hk tk lk kk kv hh ht hl hv hks hkt gl gv ihl ihv =>
    intro hsm hn
    have hnm : nodes (.mk k h t l ks vs) = 1 + nodesL l + nodesL vs := by rw [nodes]
    have hz : t.size ≤ 2000 ∧ (∀ s ∈ ks, s.size ≤ 2000) ∧ l.length ≤ 400 ∧ vs.length ≤ 400 ∧ (∀ x ∈ l, Small x) ∧ (∀ x ∈ vs, Small x) := by
      cases hsm with
      | mk k h t l ks vs ht hkt hl hk hv gl gv => exact ⟨ht, hkt, hl, hv, gl, gv⟩
    obtain ⟨z1, z2, z3, z4, z5, z6⟩ := hz
    have hle : ∀ (m : List V) (x : V), x ∈ m → nodes x ≤ nodesL m := fun m x hx => by
      obtain ⟨i, hi, rfl⟩ := List.getElem_of_mem hx
      have h1 := nsum_succ m i hi
      have h2 := nsum_le m (i + 1)
      omega
    by_cases h5 : k = 5
    · subst h5
      have hvs : vs = [] := by
        have hks0 := kk.resolve_left (by decide)
        rw [hks0] at kv
        exact List.eq_nil_of_length_eq_zero (by simpa using kv.symm)
      exact json_five h t l ks vs z3 hvs (by omega) fun x hx => ihl x hx (z5 x hx) (by have := hle l x hx; omega)
    · by_cases h6 : k = 6
      · subst h6
        exact json_six h t l ks vs z4 (lk.resolve_left (by decide)) kv z2 (by omega) fun x hx => ihv x hx (z6 x hx) (by have := hle vs x hx; omega)
      · exact json_leaf (.mk k h t l ks vs k0 k6 hk tk lk kk kv hh ht hl hv hks hkt gl gv) z1 (by show k ≤ 4; omega)
end Go.Proofs.YthggnkmlnjlggaaGreatDoor
