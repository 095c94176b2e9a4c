/-
  A number's decimal digits: the walk of FormatUint and of FormatInt at base ten.
  Conditions: none.
-/
import Derived.Test.YthggnkmlnjlggaaGreatDoorDec
import Derived.Test.YthggnkmlnjlggaaGreatDoorMem
import Derived.Deep.DeepMust
import Derived.Laws.IdiomStrings
import Derived.Laws.BytesArg
import Derived.Laws.Concat
namespace Go.Proofs.YthggnkmlnjlggaaGreatDoor
open Go.RowKit

/-- A digit's sign. -/
def dsign (d : Nat) : UInt8 := UInt8.ofNat (48 + d)
def dstr (n : Nat) : ByteArray := ⟨((digs n).map dsign).toArray⟩
theorem dsign_toNat {d : Nat} (h : d < 10) : (dsign d).toNat = 48 + d := by
  unfold dsign
  rw [UInt8.toNat_ofNat']
  omega

/-- What has been written: the last m places of the 64. -/
def Digits (w wr : World) (n r m : Nat) : Prop :=
  (∃ cs ds, Blk wr w.heap.size cs 116 ∧ cs.size = 64 ∧ ds.length = m ∧ (∀ j, j < m → cs[64 - m + j]? = some (.int .u8 (48 + (ds.getD j 0 : Nat)))) ∧ (∀ d ∈ ds, d < 10) ∧
    (m = 0 ∧ r = n ∨ 0 < m ∧ (r = 0 ∧ digs n = ds ∨ 0 < r ∧ digs n = digs r ++ ds))) ∧ Old w wr
theorem Digits.small {w wr : World} {n r m : Nat} (h : Digits w wr n r m) (hn : n < 18446744073709551616) : m ≤ 20 ∧ (0 < r → m < 20) ∧ r < 18446744073709551616 := by
  obtain ⟨⟨cs, ds, hb, hs, hm, hc, hl, hd⟩, ho⟩ := h
  have hlen := digs_len (n := n) (k := 20) (by omega) (by decide)
  rcases hd with ⟨rfl, rfl⟩ | ⟨h0, ⟨rfl, hd⟩ | ⟨hr, hd⟩⟩
  · omega
  · rw [hd] at hlen
    omega
  · have h1 : 0 < (digs r).length := List.length_pos_iff.2 (digs_ne r)
    have hr2 : r ≤ n := by
      have := vald_digs n
      rw [hd, vald_append, vald_digs] at this
      have hp : 1 ≤ 10 ^ ds.length := Nat.pow_pos (by decide)
      have : r * 1 ≤ r * 10 ^ ds.length := Nat.mul_le_mul_left _ hp
      omega
    rw [hd, List.length_append] at hlen
    omega
theorem Digits.put {w wr : World} {n r m : Nat} (h : Digits w wr n r m) (hgo : m = 0 ∨ 0 < r) (hm : m < 64) : Digits w (wr.setCell ⟨w.heap.size, 63 - m, none⟩ (.int .u8 (48 + (r % 10 : Nat)))) n (r / 10) (m + 1) := by
  obtain ⟨⟨cs, ds, hb, hs, hml, hc, hl, hd⟩, ho⟩ := h
  refine ⟨⟨cs.setIfInBounds (63 - m) (.int .u8 (48 + (r % 10 : Nat))), r % 10 :: ds, hb.set _ _, by simpa using hs, by simp [hml], fun j hj => ?_, fun d hd => ?_, .inr ⟨by omega, ?_⟩⟩, ho.setCell (Nat.le_refl _) _⟩
  · match j with
    | 0 =>
      rw [show 64 - (m + 1) + 0 = 63 - m by omega, Array.getElem?_setIfInBounds_self_of_lt (by omega)]
      rfl
    | j + 1 =>
      rw [show 64 - (m + 1) + (j + 1) = 64 - m + j by omega, Array.getElem?_setIfInBounds_ne (by omega)]
      simpa using hc j (by omega)
  · rcases List.mem_cons.1 hd with rfl | hd
    · omega
    · exact hl d hd
  · have key : digs n = digs r ++ ds ∨ digs n = ds ∧ r = 0 ∧ 0 < m := by
      rcases hd with ⟨rfl, rfl⟩ | ⟨h0, ⟨rfl, hd⟩ | ⟨hr, hd⟩⟩
      · obtain rfl := List.eq_nil_of_length_eq_zero hml
        exact .inl (by simp)
      · exact .inr ⟨hd, rfl, h0⟩
      · exact .inl hd
    rcases key with key | ⟨_, h1, h2⟩
    · by_cases h10 : r < 10
      · left
        refine ⟨by omega, ?_⟩
        rw [key, digs_small h10, show r % 10 = r by omega]
        rfl
      · right
        refine ⟨by omega, ?_⟩
        rw [key, digs_big h10, List.append_assoc]
        rfl
    · omega
theorem Digits.cell {w wr : World} {n r m : Nat} (h : Digits w wr n r m) (i : Nat) (hi : i < 64) : (∃ y, wr.cell? ⟨w.heap.size, i, none⟩ = some y) ∧ wr.frozen? ⟨w.heap.size, i, none⟩ = false := by
  obtain ⟨⟨cs, ds, hb, hs, _⟩, _⟩ := h
  exact ⟨⟨cs[i]'(by omega), by rw [hb.cell]; simp [hs, hi]⟩, hb.frozen i⟩
/-- The text that the written digits are. -/
theorem Digits.text {w wr : World} {n m : Nat} (h : Digits w wr n 0 m) (hm : 0 < m) (hm2 : m ≤ 64) : (convert 75 9 (.slice (some ⟨w.heap.size, 64 - m, none⟩) m m)).run Tryz.prog wr = .ok (.string (dstr n)) wr := by
  obtain ⟨⟨cs, ds, hb, hs, hml, hc, hl, hd⟩, ho⟩ := h
  have hdn : digs n = ds := by
    rcases hd with ⟨h0, _⟩ | ⟨_, ⟨_, hd⟩ | ⟨hr, _⟩⟩
    · omega
    · exact hd
    · omega
  unfold dstr
  rw [hdn]
  have hlen : (ds.map dsign).length = m := by simpa using hml
  have := run_convert_bytes_back (P := Tryz.prog) wr 75 9 5 ⟨w.heap.size, 64 - m, none⟩ m (ds.map dsign) Tryz.underlying75 Tryz.underlying5 Tryz.underlying9 fun j hj => by
    have hj' : j < m := by omega
    have hadd : (⟨w.heap.size, 64 - m, none⟩ : Addr).add j = ⟨w.heap.size, 64 - m + j, none⟩ := by unfold Addr.add; split <;> simp_all
    rw [hadd, hb.cell, hc j hj']
    have hdj : ds.getD j 0 = ds[j]'(by omega) := by simp [hml, hj']
    rw [hdj, List.getElem_map, dsign_toNat (hl _ (List.getElem_mem _))]
    simp
  rw [hlen] at this
  exact this
theorem sign_byte (d : Nat) (hd : d < 10) : ∀ h : d < ByteArray.size ⟨#[48, 49, 50, 51, 52, 53, 54, 55, 56, 57, 97, 98, 99, 100, 101, 102, 103, 104, 105, 106, 107, 108, 109, 110, 111, 112, 113, 114, 115, 116, 117, 118, 119, 120, 121, 122]⟩, (((ByteArray.mk #[48, 49, 50, 51, 52, 53, 54, 55, 56, 57, 97, 98, 99, 100, 101, 102, 103, 104, 105, 106, 107, 108, 109, 110, 111, 112, 113, 114, 115, 116, 117, 118, 119, 120, 121, 122])[d]).toNat : Int) = 48 + (d : Nat) := by
  match d, hd with
  | 0, _ => intro _; rfl
  | 1, _ => intro _; rfl
  | 2, _ => intro _; rfl
  | 3, _ => intro _; rfl
  | 4, _ => intro _; rfl
  | 5, _ => intro _; rfl
  | 6, _ => intro _; rfl
  | 7, _ => intro _; rfl
  | 8, _ => intro _; rfl
  | 9, _ => intro _; rfl
theorem Digits.start (w : World) (n : Nat) : Digits w (w.alloc (.cells (Array.replicate 64 (.int .u8 0)) 116)) n n 0 :=
  ⟨⟨_, [], Blk.new w _ _, by simp, rfl, (fun j hj => absurd hj (by omega)), (fun _ h => by (cases h)), Or.inl ⟨rfl, rfl⟩⟩, (Old.refl w).alloc _⟩

/-- The places of an array of 64 from p on. -/
theorem slice64 (g o p : Nat) (hp : p < 64) (w : World) : (Instr.sliceAt 116 (.pointer (some ⟨g, o, none⟩)) (some (.int .i64 (p : Nat))) none none).run Tryz.prog w = .ok (.slice (some ⟨g, o + p, none⟩) (64 - p) (64 - p)) w := by
  have hal : Tryz.prog.arrayLen 116 = 64 := by kernel_rfl
  have hu : Tryz.prog.underlying 116 = some (.array (Tryz.prog.arrayLen 116) (Tryz.prog.elem 116)) := by kernel_rfl
  have hsz : (sizeOf (Tryz.prog.elem 116)).run Tryz.prog w = .ok 1 w := by kernel_rfl
  rw [run_sliceAt_array_l w 116 ⟨g, o, none⟩ hu .i64 (p : Nat) (by omega) (by rw [hal]; omega), hsz, hal]
  have hne : ¬ 64 = p := by omega
  have hadd : (⟨g, o, none⟩ : Addr).add p = ⟨g, o + p, none⟩ := by unfold Addr.add; split <;> simp_all
  simp [slicedAt, Result.andThen, hne, hadd]
set_option maxHeartbeats 4000000 in
set_option maxRecDepth 100000 in
theorem format_uint (n : Nat) (hn : n < 18446744073709551616) (w : World) : Calls Tryz.prog 114 #[.int .u64 (n : Nat), .int .i64 10] w fun e w' => e = .returned (.string (dstr n)) ∧ Old w w' := by
  have HN := Lib.hid hn
  have SB := Lib.hid sign_byte
  clear hn
  go_enter Tryz.func114, Tryz.ntmps114
  go_wp2
  go_loopg [0, 6] 64 (fun gk s0 s6 wr => ∃ r p, p = gk ∧ p ≤ 64 ∧ s0 = .int .u64 (r : Nat) ∧ s6 = .int .i64 (p : Nat) ∧ Digits w wr n r (64 - p))
  case atStart => exact ⟨n, 64, rfl, Nat.le_refl _, rfl, rfl, Digits.start w n⟩
  case round =>
    obtain ⟨r, p, rfl, hp, rfl, rfl, D⟩ := hrel
    obtain ⟨hm20, hmr, hr⟩ := D.small HN.out
    have D0 := Lib.hid D
    have hd10 : r % 10 < 10 := Nat.mod_lt _ (by decide)
    by_cases h64 : p = 64
    · subst h64
      obtain ⟨⟨y, hy⟩, hz⟩ := D.cell 63 (by decide)
      have P := Lib.hid (D.put (.inl rfl) (by decide))
      clear D
      go_wp2
      go_roundg 63
      case measure => decide
      case rel => exact ⟨r / 10, 63, rfl, by decide, by go_num, by go_num, by rw [SB.out (r % 10) hd10]; exact P.out⟩
    · by_cases h0 : r = 0
      · subst h0
        have ht := D.text (by omega) (by omega)
        rw [Nat.sub_sub_self hp] at ht
        have hsl := slice64 w.heap.size 0 p (by omega)
        rw [Nat.zero_add] at hsl
        clear D
        go_wp2
        go_ret
        exact ⟨rfl, D0.out.2⟩
      · have hr0 : 0 < r := by omega
        have hp20 : 44 < p := by have := hmr hr0; omega
        obtain ⟨⟨y, hy⟩, hz⟩ := D.cell (p - 1) (by omega)
        have P := Lib.hid (D.put (.inr hr0) (by omega))
        clear D hm20 hmr h0
        go_wp2
        go_roundg (p - 1)
        case measure => omega
        case rel => exact ⟨r / 10, p - 1, rfl, by omega, by go_num, by go_num, by rw [SB.out (r % 10) hd10]; have := P.out; rw [show 63 - (64 - p) = p - 1 by omega, show 64 - p + 1 = 64 - (p - 1) by omega] at this; exact this⟩
theorem dstr_size {n k : Nat} (h : n < 10 ^ k) (hk : 0 < k) : (dstr n).size ≤ k := by
  have := digs_len h hk
  simp only [dstr, ByteArray.size, List.size_toArray, List.length_map]
  exact this
theorem wrap_neg (m : Nat) (h0 : 0 < m) (h : m ≤ 9007199254740992) : IntKind.u64.wrap (-IntKind.u64.wrap (-(m : Int))) = m := by
  have hd : ∀ n : Int, IntKind.u64.wrap n = n % 18446744073709551616 := fun n => by simp [IntKind.wrap, IntKind.bits, IntKind.signed]
  rw [hd, hd]
  omega
/-- An integer's text. -/
def istr (n : Int) : ByteArray := if n < 0 then ⟨#[45]⟩ ++ dstr n.natAbs else dstr n.natAbs
set_option maxHeartbeats 1000000 in
set_option maxRecDepth 100000 in
theorem format_int (n : Int) (hn : -9007199254740992 ≤ n ∧ n ≤ 9007199254740992) (w : World) : Calls Tryz.prog 99 #[.int .i64 n, .int .i64 10] w fun e w' => e = .returned (.string (istr n)) ∧ Old w w' := by
  obtain ⟨m, hm⟩ : ∃ m, m = n.natAbs := ⟨_, rfl⟩
  have H := fun W => format_uint m (by omega) W
  have HF := Lib.hid H
  obtain ⟨h1, h2⟩ := hn
  by_cases h0 : n < 0
  · have e : istr n = ⟨#[45]⟩ ++ dstr m := by unfold istr; rw [if_pos h0, hm]
    have E := Lib.hid e
    obtain rfl : n = -(m : Int) := by omega
    have HW := Lib.hid (wrap_neg m (by omega) (by omega))
    have hds := dstr_size (n := m) (k := 17) (by omega) (by decide)
    have hadd := fun W => run_string_add_sum (P := Tryz.prog) W ⟨#[45]⟩ (dstr m) (by have : (ByteArray.mk #[45]).size = 1 := rfl; omega)
    clear H hm e
    go_enter Tryz.func99, Tryz.ntmps99
    go_wp2_with (go_at_call 114; go_must (rw [HW.out]; refine (HF.out _).mono ?_; rintro e w2 ⟨rfl, ho⟩; have HO := Lib.hid ho; clear ho))
    go_ret
    refine ⟨?_, HO.out⟩
    rw [E.out]
    rfl
  · have e : istr n = dstr m := by unfold istr; rw [if_neg h0, hm]
    have E := Lib.hid e
    obtain rfl : n = (m : Int) := by omega
    clear H hm e
    go_enter Tryz.func99, Tryz.ntmps99
    go_wp2_with (go_at_call 114; go_must (refine (HF.out _).mono ?_; rintro e w2 ⟨rfl, ho⟩; have HO := Lib.hid ho; clear ho))
    go_ret
    refine ⟨?_, HO.out⟩
    rw [E.out]
    rfl
end Go.Proofs.YthggnkmlnjlggaaGreatDoor
