/-
  A function of code points that turns ASCII letters alone, over a right text: byte by byte. Plain words.
  Conditions: none.
-/
import Derived.Lib.MapLaws
import Derived.Lib.ValidLaws
import Derived.Lib.TrimAscii
import Derived.Laws.RangeAny
import Derived.Lib.TrimUEq
namespace Go.Proofs.YtpoanncombcemaaDoor
open Go.Lib

theorem encode_high {r : Nat} (h : 128 ≤ r) : ∀ b ∈ encodeRune (r : Int), 128 ≤ b.toNat := by
  intro b hb
  unfold encodeRune at hb
  obtain ⟨x, hx, rfl⟩ := List.mem_map.1 hb
  have hby := encodeRuneZ_byte (r : Int) x hx
  have key : 128 ≤ x := by
    by_cases h2 : (r : Int) ≤ 2047
    · rw [encodeRuneZ_two (by omega) h2] at hx
      simp at hx
      omega
    · by_cases h3 : (2048 ≤ (r : Int) ∧ (r : Int) < 55296) ∨ (57343 < (r : Int) ∧ (r : Int) ≤ 65535)
      · rw [encodeRuneZ_three h3] at hx
        simp at hx
        omega
      · by_cases h4 : 65536 ≤ (r : Int) ∧ (r : Int) ≤ 1114111
        · rw [encodeRuneZ_four h4.1 h4.2] at hx
          simp at hx
          omega
        · rw [encodeRuneZ_bad (by omega)] at hx
          simp at hx
          omega
  have e : (x.toNat.toUInt8).toNat = x.toNat := by
    simp [Nat.toUInt8]
    omega
  rw [e]
  omega
theorem decodeL_high (b : UInt8) (t : List UInt8) (h : 128 ≤ b.toNat) : 128 ≤ (decodeL (b :: t)).1 := by
  have hs : 0 < (⟨(b :: t).toArray⟩ : ByteArray).size := by simp [ByteArray.size]
  exact (decode_high ⟨(b :: t).toArray⟩ 0 hs h).1
theorem encode_low {r : Int} (h0 : 0 ≤ r) (h1 : r ≤ 127) : encodeRune r = [r.toNat.toUInt8] := by
  unfold encodeRune
  rw [encodeRuneZ_one h0 h1]
  rfl
theorem mapD_ascii (f : Int → Int) (g : UInt8 → UInt8) (hlow : ∀ b : UInt8, b.toNat < 128 → f b.toNat = (g b).toNat ∧ (g b).toNat < 128) (hhi : ∀ r : Nat, 128 ≤ r → f r = r) (hg : ∀ b : UInt8, 128 ≤ b.toNat → g b = b) :
    ∀ (n : Nat) (l : List UInt8), l.length ≤ n → validD l = true → mapD f l = l.map g
  | n, [], _, _ => by rw [mapD_nil]; rfl
  | 0, b :: t, hn, _ => by simp at hn
  | n + 1, b :: t, hn, hv => by
    have hlen : t.length ≤ n := by simpa using hn
    by_cases hb : b.toNat < 128
    · have hd := decodeL_ascii b t hb
      obtain ⟨h1, h2⟩ := hlow b hb
      have hvt : validD t = true := by rw [validD_cons b t hb] at hv; exact hv
      have ih := mapD_ascii f g hlow hhi hg n t hlen hvt
      rw [mapD_step f (b :: t) (by simp), hd]
      simp only [List.drop_succ_cons, List.drop_zero]
      rw [h1, if_pos (by omega), encode_low (by omega) (by omega), ih]
      simp
    · have hb' : 128 ≤ b.toNat := by omega
      have hr := decodeL_high b t hb'
      rw [validD_step (b :: t) (by simp)] at hv
      have hbad : ¬ ((decodeL (b :: t)).1 = 65533 ∧ (decodeL (b :: t)).2 = 1) := fun h => by rw [if_pos h] at hv; cases hv
      rw [if_neg hbad] at hv
      have hw := decodeL_width (b :: t)
      have ih := mapD_ascii f g hlow hhi hg n ((b :: t).drop (decodeL (b :: t)).2) (by rw [List.length_drop]; simp only [List.length_cons]; omega) hv
      rw [mapD_same f (b :: t) (by simp) (hhi _ hr) hbad, ih]
      have hhigh : ∀ c ∈ (b :: t).take (decodeL (b :: t)).2, 128 ≤ c.toNat := by
        rw [← encode_decode (b :: t) (by simp) hbad]
        exact encode_high hr
      have e : ((b :: t).take (decodeL (b :: t)).2).map g = (b :: t).take (decodeL (b :: t)).2 := by
        conv => rhs; rw [← List.map_id ((b :: t).take (decodeL (b :: t)).2)]
        exact List.map_congr_left fun c hc => hg c (hhigh c hc)
      rw [← e, ← List.map_append, List.take_append_drop]
theorem decodeN_alike (n b0 b1 b2 b3 c1 c2 c3 : Nat) (h1 : c1 = b1 ∨ b1 < 128 ∧ c1 < 128) (h2 : c2 = b2 ∨ b2 < 128 ∧ c2 < 128) (h3 : c3 = b3 ∨ b3 < 128 ∧ c3 < 128) : decodeN n b0 c1 c2 c3 = decodeN n b0 b1 b2 b3 := by
  have q : ∀ x : Nat, x < 128 → (x / 64 == 2) = false := fun x hx => by
    have : x / 64 ≠ 2 := by omega
    simpa using this
  rcases h1 with rfl | ⟨a1, a1'⟩ <;> rcases h2 with rfl | ⟨a2, a2'⟩ <;> rcases h3 with rfl | ⟨a3, a3'⟩ <;> simp_all [decodeN]
theorem validD_map (g : UInt8 → UInt8) (hlow : ∀ b : UInt8, b.toNat < 128 → (g b).toNat < 128) (hg : ∀ b : UInt8, 128 ≤ b.toNat → g b = b) :
    ∀ (n : Nat) (l : List UInt8), l.length ≤ n → validD l = true → validD (l.map g) = true
  | _, [], _, _ => rfl
  | 0, b :: t, hn, _ => by simp at hn
  | n + 1, b :: t, hn, hv => by
    have hlen : t.length ≤ n := by simpa using hn
    by_cases hb : b.toNat < 128
    · rw [List.map_cons, validD_cons (g b) _ (hlow b hb)]
      rw [validD_cons b t hb] at hv
      exact validD_map g hlow hg n t hlen hv
    · have hb' : 128 ≤ b.toNat := by omega
      rw [validD_step (b :: t) (by simp)] at hv
      have hbad : ¬ ((decodeL (b :: t)).1 = 65533 ∧ (decodeL (b :: t)).2 = 1) := fun h => by rw [if_pos h] at hv; cases hv
      rw [if_neg hbad] at hv
      have hw := decodeL_width (b :: t)
      have ih := validD_map g hlow hg n ((b :: t).drop (decodeL (b :: t)).2) (by rw [List.length_drop]; simp only [List.length_cons]; omega) hv
      have alike : ∀ i, ((t.map g).getD i 0).toNat = (t.getD i 0).toNat ∨ (t.getD i 0).toNat < 128 ∧ ((t.map g).getD i 0).toNat < 128 := fun i => by
        by_cases hi : i < t.length
        · have e1 : (t.map g).getD i 0 = g t[i] := by simp [hi]
          have e2 : t.getD i 0 = t[i] := by simp [hi]
          rw [e1, e2]
          by_cases hc : (t[i]).toNat < 128
          · exact .inr ⟨hc, hlow _ hc⟩
          · exact .inl (by rw [hg _ (by omega)])
        · exact .inl (by simp [hi])
      have hd : decodeL ((b :: t).map g) = decodeL (b :: t) := by
        rw [List.map_cons, hg b hb', decodeL_N, decodeL_N]
        simp only [List.length_cons, List.length_map, List.getD_cons_zero, List.getD_cons_succ]
        exact decodeN_alike _ _ _ _ _ _ _ _ (alike 0) (alike 1) (alike 2)
      rw [validD_step _ (by simp), hd, if_neg hbad, ← List.map_drop]
      exact ih
end Go.Proofs.YtpoanncombcemaaDoor
