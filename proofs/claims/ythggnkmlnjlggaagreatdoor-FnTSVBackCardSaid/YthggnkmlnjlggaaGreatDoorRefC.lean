/-
  The reference's escaper: the walk of changed.
  Conditions: none.
-/
import Derived.Test.YthggnkmlnjlggaaGreatDoorRefB
namespace Go.Proofs.YthggnkmlnjlggaaGreatDoor
open Go.RowKit

def chgCells : Array Value := #[.string ⟨#[10]⟩, .string ⟨#[92, 110]⟩, .string ⟨#[13]⟩, .string ⟨#[92, 114]⟩, .string ⟨#[9]⟩, .string ⟨#[92, 116]⟩, .string ⟨#[92]⟩, .string ⟨#[92, 92]⟩]
def chg (b : UInt8) : List UInt8 := if b = 10 then [92, 110] else if b = 13 then [92, 114] else if b = 9 then [92, 116] else if b = 92 then [92, 92] else [b]
def chgL (l : List UInt8) : List UInt8 := l.flatMap chg
def chgS (s : ByteArray) : ByteArray := ⟨(chgL s.data.toList).toArray⟩
def chgKey (i : Nat) : UInt8 := [10, 13, 9, 92].getD i 0
theorem chg_len (b : UInt8) : (chg b).length ≤ 2 := by
  unfold chg
  repeat' split
  all_goals simp
theorem chg_other {c : UInt8} (h : ∀ j, j < 4 → chgKey j ≠ c) : chg c = [c] := by
  have h0 := h 0 (by decide)
  have h1 := h 1 (by decide)
  have h2 := h 2 (by decide)
  have h3 := h 3 (by decide)
  unfold chg
  rw [if_neg (fun e => h0 e.symm), if_neg (fun e => h1 e.symm), if_neg (fun e => h2 e.symm), if_neg (fun e => h3 e.symm)]
theorem chgL_len (l : List UInt8) : (chgL l).length ≤ 2 * l.length := by
  induction l with
  | nil => simp [chgL]
  | cons a r ih =>
    have := chg_len a
    simp only [chgL, List.flatMap_cons, List.length_append, List.length_cons] at *
    omega
theorem chgL_snoc (l : List UInt8) (k : Nat) (hk : k < l.length) : chgL (l.take (k + 1)) = chgL (l.take k) ++ chg (l.getD k 0) := by
  rw [List.take_succ_eq_append_getElem hk]
  simp only [chgL, List.flatMap_append, List.flatMap_cons, List.flatMap_nil, List.append_nil, List.getD_eq_getElem?_getD, List.getElem?_eq_getElem hk, Option.getD_some]
theorem no_more_ {i : Nat} {c : UInt8} (h : ∀ j, j < i → chgKey j ≠ c) (hc : chgKey i ≠ c) : ∀ j, j < i + 1 → chgKey j ≠ c := fun j hj => by
  rcases Nat.lt_succ_iff_lt_or_eq.1 hj with h1 | rfl
  · exact h j h1
  · exact hc
theorem one_eq (c : UInt8) : (([c] : List UInt8) == (⟨#[c]⟩ : ByteArray).toList) = true := by
  rw [Lib.toList_data]
  exact beq_self_eq_true _
theorem one_ne {a c : UInt8} (h : a ≠ c) : (([a] : List UInt8) == (⟨#[c]⟩ : ByteArray).toList) = false := by
  rw [Lib.toList_data]
  simpa using h
/-- One byte of a text, as a text. -/
theorem one_byte (s : ByteArray) (k : Nat) (hk : k < s.size) : s.extract k (k + 1) = ⟨#[s.data.toList.getD k 0]⟩ := by
  have h : (s.extract k (k + 1)).data.toList = [s.data.toList.getD k 0] := by
    rw [Lib.extract_data, Nat.add_sub_cancel_left]
    have hk' : k < s.data.toList.length := by simpa using hk
    rw [List.drop_eq_getElem_cons hk', List.getD_eq_getElem?_getD, List.getElem?_eq_getElem hk']
    rfl
  generalize s.extract k (k + 1) = x at *
  obtain ⟨⟨l⟩⟩ := x
  simp only at h
  rw [h]
set_option maxHeartbeats 4000000 in
set_option maxRecDepth 100000 in
theorem changed_any (s : ByteArray) (hs : s.size ≤ 1000000) (g : Nat) (w : World) (hb : Blk w g chgCells 9) : Calls Tryz.prog 26 #[.string s, .slice (some ⟨g, 0, none⟩) 8 8] w fun e w' => e = .returned (.string (chgS s)) ∧ w' = w := by
  obtain ⟨l, hl⟩ : ∃ l, l = s.data.toList := ⟨_, rfl⟩
  have hll : l.length = s.size := by rw [hl]; simp
  have HL := Lib.hid hl
  have HO := Lib.hid (fun k hk => one_byte s k hk)
  have HB := Lib.hid hb
  have HLL := Lib.hid hll
  have hgl := hb.lt
  clear hl hb hll
  go_enter Tryz.func26, Tryz.ntmps26
  go_wp2
  go_loopg [5, 6] s.size (fun gk s5 s6 wr => ∃ k, k + gk = s.size ∧ s5 = .string ⟨(chgL (l.take k)).toArray⟩ ∧ s6 = .int .i64 (k : Nat) ∧ w = wr)
  case atStart => exact ⟨0, by omega, rfl, by go_num, rfl⟩
  case round =>
    obtain ⟨k, hk, rfl, rfl, rfl⟩ := hrel
    have hlen : (chgL (l.take k)).length ≤ 2000000 := by have := chgL_len (l.take k); rw [List.length_take] at this; have := HLL.out; omega
    obtain ⟨X, hX⟩ : ∃ X, X = chgL (l.take k) := ⟨_, rfl⟩
    rw [← hX] at hlen ⊢
    by_cases hlt : k < s.size
    · have hx := HO.out k hlt
      have HS := Lib.hid (chgL_snoc l k (by rw [HLL.out]; exact hlt))
      obtain ⟨c, hc⟩ : ∃ c, c = s.data.toList.getD k 0 := ⟨_, rfl⟩
      rw [← hc] at hx
      have HC := Lib.hid (show l.getD k 0 = c by rw [HL.out, hc])
      have HX := Lib.hid hX
      obtain ⟨x, hxx⟩ : ∃ x, x = s.extract k (k + 1) := ⟨_, rfl⟩
      rw [← hxx] at hx
      have hex := hxx.symm
      have HXC := Lib.hid hx
      have hkl : (k : Int) < (s.size : Nat) := by omega
      have s1 : IntKind.i64.wrap ((k : Int) + 1) = (k : Int) + 1 := IntWalk.i64_in _ (by omega)
      clear hx hxx hc hX
      go_wp2
      obtain ⟨gko, hgko⟩ : ∃ gko, gko = gk := ⟨_, rfl⟩
      subst hgko
      go_loopg [7, 8] 4 (fun gk s7 s8 wr => ∃ i : Nat, i + gk = 4 ∧ s7 = .string x ∧ s8 = .int .i64 ((2 * i : Nat) : Int) ∧ (∀ j, j < i → chgKey j ≠ c) ∧ w = wr)
      case atStart => exact ⟨0, by omega, rfl, by go_num, fun j hj => absurd hj (by omega), rfl⟩
      case round =>
        obtain ⟨i, hi, rfl, rfl, hno, rfl⟩ := hrel
        have HNO := Lib.hid hno
        clear hno
        rcases (show i = 0 ∨ i = 1 ∨ i = 2 ∨ i = 3 ∨ i = 4 by omega) with rfl | rfl | rfl | rfl | rfl
        · have z0 : w.cell? ⟨g, 0, none⟩ = some (.string ⟨#[10]⟩) := HB.out.cell 0
          by_cases hcc : c = 10
          · have hcmp : (([10] : List UInt8) == x.toList) = true := by rw [HXC.out, hcc]; exact one_eq _
            have z1 : w.cell? ⟨g, 1, none⟩ = some (.string ⟨#[92, 110]⟩) := HB.out.cell 1
            have hadd := fun W => run_string_add_sum (P := Tryz.prog) W ⟨X.toArray⟩ ⟨#[92, 110]⟩ (by have h1 : (ByteArray.mk #[92, 110]).size = 2 := rfl; have h2 : (ByteArray.mk X.toArray).size = X.length := (by simp [ByteArray.size]); omega)
            have REL := Lib.hid (show Value.string ((⟨X.toArray⟩ : ByteArray) ++ ⟨#[92, 110]⟩) = .string ⟨(chgL (l.take (k + 1))).toArray⟩ by rw [HS.out, HC.out, hcc, show chg 10 = [92, 110] from rfl, ← HX.out, ByteArray.mk_append_mk])
            clear hcc
            go_wp2
            go_roundg (gko - 1)
            case measure => omega
            case rel => exact ⟨k + 1, by omega, REL.out, by go_num, rfl⟩
          · have hcmp : (([10] : List UInt8) == x.toList) = false := by rw [HXC.out]; exact one_ne (fun e => hcc e.symm)
            have HN2 := Lib.hid (no_more_ HNO.out (show chgKey 0 ≠ c from fun e => hcc e.symm))
            clear hcc
            go_wp2
            go_roundg (gk - 1)
            case measure => omega
            case rel => exact ⟨1, by omega, rfl, by go_num, HN2.out, rfl⟩
        · have z0 : w.cell? ⟨g, 2, none⟩ = some (.string ⟨#[13]⟩) := HB.out.cell 2
          by_cases hcc : c = 13
          · have hcmp : (([13] : List UInt8) == x.toList) = true := by rw [HXC.out, hcc]; exact one_eq _
            have z1 : w.cell? ⟨g, 3, none⟩ = some (.string ⟨#[92, 114]⟩) := HB.out.cell 3
            have hadd := fun W => run_string_add_sum (P := Tryz.prog) W ⟨X.toArray⟩ ⟨#[92, 114]⟩ (by have h1 : (ByteArray.mk #[92, 114]).size = 2 := rfl; have h2 : (ByteArray.mk X.toArray).size = X.length := (by simp [ByteArray.size]); omega)
            have REL := Lib.hid (show Value.string ((⟨X.toArray⟩ : ByteArray) ++ ⟨#[92, 114]⟩) = .string ⟨(chgL (l.take (k + 1))).toArray⟩ by rw [HS.out, HC.out, hcc, show chg 13 = [92, 114] from rfl, ← HX.out, ByteArray.mk_append_mk])
            clear hcc
            go_wp2
            go_roundg (gko - 1)
            case measure => omega
            case rel => exact ⟨k + 1, by omega, REL.out, by go_num, rfl⟩
          · have hcmp : (([13] : List UInt8) == x.toList) = false := by rw [HXC.out]; exact one_ne (fun e => hcc e.symm)
            have HN2 := Lib.hid (no_more_ HNO.out (show chgKey 1 ≠ c from fun e => hcc e.symm))
            clear hcc
            go_wp2
            go_roundg (gk - 1)
            case measure => omega
            case rel => exact ⟨2, by omega, rfl, by go_num, HN2.out, rfl⟩
        · have z0 : w.cell? ⟨g, 4, none⟩ = some (.string ⟨#[9]⟩) := HB.out.cell 4
          by_cases hcc : c = 9
          · have hcmp : (([9] : List UInt8) == x.toList) = true := by rw [HXC.out, hcc]; exact one_eq _
            have z1 : w.cell? ⟨g, 5, none⟩ = some (.string ⟨#[92, 116]⟩) := HB.out.cell 5
            have hadd := fun W => run_string_add_sum (P := Tryz.prog) W ⟨X.toArray⟩ ⟨#[92, 116]⟩ (by have h1 : (ByteArray.mk #[92, 116]).size = 2 := rfl; have h2 : (ByteArray.mk X.toArray).size = X.length := (by simp [ByteArray.size]); omega)
            have REL := Lib.hid (show Value.string ((⟨X.toArray⟩ : ByteArray) ++ ⟨#[92, 116]⟩) = .string ⟨(chgL (l.take (k + 1))).toArray⟩ by rw [HS.out, HC.out, hcc, show chg 9 = [92, 116] from rfl, ← HX.out, ByteArray.mk_append_mk])
            clear hcc
            go_wp2
            go_roundg (gko - 1)
            case measure => omega
            case rel => exact ⟨k + 1, by omega, REL.out, by go_num, rfl⟩
          · have hcmp : (([9] : List UInt8) == x.toList) = false := by rw [HXC.out]; exact one_ne (fun e => hcc e.symm)
            have HN2 := Lib.hid (no_more_ HNO.out (show chgKey 2 ≠ c from fun e => hcc e.symm))
            clear hcc
            go_wp2
            go_roundg (gk - 1)
            case measure => omega
            case rel => exact ⟨3, by omega, rfl, by go_num, HN2.out, rfl⟩
        · have z0 : w.cell? ⟨g, 6, none⟩ = some (.string ⟨#[92]⟩) := HB.out.cell 6
          by_cases hcc : c = 92
          · have hcmp : (([92] : List UInt8) == x.toList) = true := by rw [HXC.out, hcc]; exact one_eq _
            have z1 : w.cell? ⟨g, 7, none⟩ = some (.string ⟨#[92, 92]⟩) := HB.out.cell 7
            have hadd := fun W => run_string_add_sum (P := Tryz.prog) W ⟨X.toArray⟩ ⟨#[92, 92]⟩ (by have h1 : (ByteArray.mk #[92, 92]).size = 2 := rfl; have h2 : (ByteArray.mk X.toArray).size = X.length := (by simp [ByteArray.size]); omega)
            have REL := Lib.hid (show Value.string ((⟨X.toArray⟩ : ByteArray) ++ ⟨#[92, 92]⟩) = .string ⟨(chgL (l.take (k + 1))).toArray⟩ by rw [HS.out, HC.out, hcc, show chg 92 = [92, 92] from rfl, ← HX.out, ByteArray.mk_append_mk])
            clear hcc
            go_wp2
            go_roundg (gko - 1)
            case measure => omega
            case rel => exact ⟨k + 1, by omega, REL.out, by go_num, rfl⟩
          · have hcmp : (([92] : List UInt8) == x.toList) = false := by rw [HXC.out]; exact one_ne (fun e => hcc e.symm)
            have HN2 := Lib.hid (no_more_ HNO.out (show chgKey 3 ≠ c from fun e => hcc e.symm))
            clear hcc
            go_wp2
            go_roundg (gk - 1)
            case measure => omega
            case rel => exact ⟨4, by omega, rfl, by go_num, HN2.out, rfl⟩
        · have hx1 : x.size = 1 := by rw [HXC.out]; rfl
          have hx2 : (ByteArray.mk X.toArray).size = X.length := by simp [ByteArray.size]
          have hadd := fun W => run_string_add_sum (P := Tryz.prog) W ⟨X.toArray⟩ x (by omega)
          clear hx1 hx2
          have REL := Lib.hid (show Value.string ((⟨X.toArray⟩ : ByteArray) ++ x) = .string ⟨(chgL (l.take (k + 1))).toArray⟩ by rw [HS.out, HC.out, chg_other HNO.out, HXC.out, ← HX.out, ByteArray.mk_append_mk])
          go_wp2
          go_roundg (gko - 1)
          case measure => omega
          case rel => exact ⟨k + 1, by omega, REL.out, by go_num, rfl⟩
    · obtain rfl : k = s.size := by omega
      go_wp2
      go_ret
      refine ⟨?_, rfl⟩
      rw [hX, List.take_of_length_le (by rw [HLL.out]; exact Nat.le_refl _), HL.out]
      rfl
end Go.Proofs.YthggnkmlnjlggaaGreatDoor
