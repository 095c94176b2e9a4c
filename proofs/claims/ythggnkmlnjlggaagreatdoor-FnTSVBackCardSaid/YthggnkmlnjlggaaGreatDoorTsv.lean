/-
  A row as the program writes it: the walk of formatJoin at the tab format.
  Conditions: none.
-/
import Derived.Test.YthggnkmlnjlggaaGreatDoorJoinS
namespace Go.Proofs.YthggnkmlnjlggaaGreatDoor
open Go.RowKit
attribute [local go_sem ↓] Go.wp_at_zero Go.wp_at_succ

/-- What stands in a row for a value of the program. -/
def jText : J → ByteArray
  | .nil => ⟨#[]⟩
  | .bool c => if c then trueS else falseS
  | .int n => istr n
  | .flt h => fstr h
  | .str s => escS s
  | _ => ⟨#[]⟩
def isPlain : J → Bool
  | .arr _ => false
  | .obj _ _ => false
  | _ => true
/-- Not too great to be written. -/
def JB : J → Prop
  | .int n => -9007199254740992 ≤ n ∧ n ≤ 9007199254740992
  | .flt h => h % 2 = 1 ∧ -9007199254740992 < h ∧ h < 9007199254740992
  | .str s => s.size ≤ 1000000
  | _ => True
theorem low_digits (n : Nat) : ∀ b ∈ (digs n).map dsign, b.toNat < 60 := fun b hb => by
  obtain ⟨d, hd, rfl⟩ := List.mem_map.1 hb
  have := digs_lt n d hd
  rw [dsign_toNat this]
  omega
theorem low_istr (n : Int) : ∀ b ∈ (istr n).data.toList, b.toNat < 60 := fun b hb => by
  unfold istr at hb
  split at hb
  · rw [ByteArray.data_append, Array.toList_append] at hb
    rcases List.mem_append.1 hb with h | h
    · have : b = 45 := by simpa using h
      subst this
      decide
    · exact low_digits _ b h
  · exact low_digits _ b hb
theorem low_fstr (h : Int) : ∀ b ∈ (fstr h).data.toList, b.toNat < 60 := fun b hb => by
  unfold fstr at hb
  rw [ByteArray.data_append, Array.toList_append] at hb
  rcases List.mem_append.1 hb with h | h
  · split at h
    · have : b = 45 := by simpa using h
      subst this
      decide
    · simp at h
  · unfold hstr at h
    rcases List.mem_append.1 h with h | h
    · exact low_digits _ b h
    · have : b = 46 ∨ b = 53 := by simpa using h
      rcases this with rfl | rfl <;> decide
theorem not_null {s : ByteArray} (h : ∀ b ∈ s.data.toList, b.toNat < 60) : (s.toList == [110, 117, 108, 108]) = false := by
  rw [Lib.toList_data, beq_eq_false_iff_ne]
  intro e
  have := h 110 (by rw [e]; simp)
  simp at this
/-- The texts so far. -/
def Rowed (w : World) (n : Nat) (f : Nat → ByteArray) (k : Nat) (wr : World) : Prop :=
  (∃ cs : Array Value, Blk wr w.heap.size cs 9 ∧ cs.size = n ∧ ∀ i, i < n → cs[i]? = some (.string (if i < k then f i else ⟨#[]⟩))) ∧ Old w wr
theorem Rowed.start (w : World) (n : Nat) (f : Nat → ByteArray) : Rowed w n f 0 (w.alloc (.cells (madeCells #[.string ⟨#[]⟩] n) 9)) := by
  refine ⟨⟨_, Blk.new _ _ _, size_madeCells _ _, fun i hi => ?_⟩, (Old.refl w).alloc _⟩
  rw [if_neg (Nat.not_lt_zero _), ← Array.getElem?_toList, toList_madeCells_one]
  simp [hi]
theorem Rowed.later {w wr w2 : World} {n k : Nat} {f : Nat → ByteArray} (h : Rowed w n f k wr) (ho : Old wr w2) : Rowed w n f k w2 := by
  obtain ⟨⟨cs, hb, hs, hx⟩, hold⟩ := h
  exact ⟨⟨cs, hb.old ho, hs, hx⟩, hold.trans ho⟩
theorem Rowed.put {w wr : World} {n k : Nat} {f : Nat → ByteArray} (h : Rowed w n f k wr) (hk : k < n) : Rowed w n f (k + 1) (wr.setCell ⟨w.heap.size, k, none⟩ (.string (f k))) := by
  obtain ⟨⟨cs, hb, hs, hx⟩, hold⟩ := h
  refine ⟨⟨cs.setIfInBounds k (.string (f k)), hb.set k _, by simpa using hs, fun i hi => ?_⟩, hold.setCell (Nat.le_refl _) _⟩
  by_cases he : i = k
  · subst he
    rw [Array.getElem?_setIfInBounds_self_of_lt (by omega), if_pos (Nat.lt_succ_self _)]
  · rw [Array.getElem?_setIfInBounds_ne (Ne.symm he), hx i hi]
    by_cases hlt : i < k
    · rw [if_pos hlt, if_pos (by omega)]
    · rw [if_neg hlt, if_neg (by omega)]
theorem Rowed.skip {w wr : World} {n k : Nat} {f : Nat → ByteArray} (h : Rowed w n f k wr) (hf : f k = ⟨#[]⟩) : Rowed w n f (k + 1) wr := by
  obtain ⟨⟨cs, hb, hs, hx⟩, hold⟩ := h
  refine ⟨⟨cs, hb, hs, fun i hi => ?_⟩, hold⟩
  rw [hx i hi]
  by_cases he : i = k
  · subst he
    rw [if_neg (by omega), if_pos (by omega), hf]
  · by_cases hlt : i < k
    · rw [if_pos hlt, if_pos (by omega)]
    · rw [if_neg hlt, if_neg (by omega)]
theorem Rowed.cell {w wr : World} {n k : Nat} {f : Nat → ByteArray} (h : Rowed w n f k wr) (i : Nat) (hi : i < n) : (∃ y, wr.cell? ⟨w.heap.size, i, none⟩ = some y) ∧ wr.frozen? ⟨w.heap.size, i, none⟩ = false ∧ w.heap.size < wr.heap.size := by
  obtain ⟨⟨cs, hb, hs, hx⟩, _⟩ := h
  exact ⟨⟨_, by rw [hb.cell, hx i hi]⟩, hb.frozen i, hb.lt⟩
theorem Rowed.texts {w wr : World} {n : Nat} {f : Nat → ByteArray} {xs : List ByteArray} (h : Rowed w n f n wr) (hn : xs.length = n) (hx : ∀ i, i < n → xs.getD i ⟨#[]⟩ = f i) : Texts wr w.heap.size xs := by
  obtain ⟨⟨cs, hb, hs, hc⟩, _⟩ := h
  refine ⟨hb.lt, fun i hi => ?_⟩
  rw [hb.cell, hc i (by omega), if_pos (by omega), hx i (by omega)]
theorem plain_more {l : List J} {k : Nat} (h : ∀ j, j < k → isPlain (jth l j) = true) : isPlain (jth l k) = true → ∀ j, j < k + 1 → isPlain (jth l j) = true := fun hp j hj => by
  by_cases he : j = k
  · rw [he]
    exact hp
  · exact h j (by omega)
/-- What a row is, as the program writes it. -/
def JAns (l : List J) (w : World) (e : Ending) (w' : World) : Prop :=
  ((∀ x ∈ l, isPlain x = true) ∧ e = .returned (.iface 9 (.string (joinT (l.map jText)))) ∨ (∃ x ∈ l, isPlain x = false) ∧ ∃ a, e = .returned (.iface 99 (.pointer (some a)))) ∧ Old w w'
def rowF (l : List J) (i : Nat) : ByteArray := jText (jth l i)
theorem join_any (w : World) (g c : Nat) (xs : List ByteArray) (h : Texts w g xs) (hmx : xs.length ≤ 2147483648) (hsz : sizesT xs xs.length ≤ 35184372088832) (hcap : xs.length ≤ c) : Calls Tryz.prog 61 #[.slice (some ⟨g, 0, none⟩) xs.length c, .string ⟨#[9]⟩] w fun e w' => e = .returned (.string (joinT xs)) ∧ Old w w' := by
  match xs, h, hmx, hsz, hcap with
  | [], h, _, _, _ => exact join_none w _ c
  | [x], h, _, _, _ => exact join_one w g c x h
  | x :: y :: r, h, h1, h2, h3 => exact join_many w g c (x :: y :: r) h (by simp) h1 h2 h3
theorem jText_size {j : J} (h : JB j) (hs : ∀ s, j = .str s → s.size ≤ 4096) : (jText j).size ≤ 8192 := by
  cases j with
  | nil => simp [jText, ByteArray.size]
  | bool c => cases c <;> decide
  | int n =>
    have := istr_size h
    simp only [jText]
    omega
  | flt hh =>
    have := fstr_size h.2
    simp only [jText]
    omega
  | str s =>
    have h1 := escS_size s
    have h2 := hs s rfl
    simp only [jText]
    omega
  | arr l => simp [jText, ByteArray.size]
  | obj ks vs => simp [jText, ByteArray.size]
theorem sizes_le (B : Nat) : ∀ (xs : List ByteArray) (k : Nat), (∀ x ∈ xs, x.size ≤ B) → sizesT xs k ≤ xs.length * B
  | [], k, _ => by simp [sizesT]
  | x :: r, 0, _ => by simp [sizesT]
  | x :: r, k + 1, h => by
    have ih := sizes_le B r k fun y hy => h y (List.mem_cons_of_mem _ hy)
    have hx := h x List.mem_cons_self
    have e : sizesT (x :: r) (k + 1) = x.size + sizesT r k := by simp [sizesT]
    rw [e, List.length_cons, Nat.succ_mul]
    omega
theorem slice_is (v : Value) (w : World) : (Instr.typeAssert (.iface 59 v) 20 59 true).run Tryz.prog w = .ok (.tuple #[v, .bool true]) w := by kernel_rfl
set_option maxHeartbeats 8000000 in
set_option maxRecDepth 100000 in
theorem row_walk (w : World) (ge : Nat) (hbe : Blk w ge escCells 9) (l : List J) (hl : l.length ≤ 2147483648) (hjb : ∀ x ∈ l, JB x) (hss : ∀ s, J.str s ∈ l → s.size ≤ 4096) (ok : Nat → Prop) (v : Value) (h : KJs w ok l v) :
    Calls Tryz.prog 48 #[.string ⟨#[116, 115, 118]⟩, .iface 59 v, .string ⟨#[9]⟩, .func (.func 50) #[.slice (some ⟨ge, 0, none⟩) 10 10] #[]] w (JAns l w) := by
  have hmk := run_make_row' (P := Tryz.prog) 24 9 (.string ⟨#[]⟩) 16 Tryz.underlying24 Tryz.infoStr rfl .i64 .i64 l.length (by omega) (by omega)
  have H := Lib.hid h
  have HE := Lib.hid hbe
  have HJB := Lib.hid hjb
  have HSS := Lib.hid hss
  obtain ⟨X, s, r⟩ := h
  obtain ⟨A, c, rfl, hcap⟩ := s.len
  obtain ⟨n, hn⟩ : ∃ n, n = l.length := ⟨_, rfl⟩
  have HS := Lib.hid s
  have HR := Lib.hid r
  rw [← hn] at hmk hl hcap HS H ⊢
  have HN := Lib.hid hn
  have hts := fun W => slice_is (.slice A n c) W
  clear s r hbe hjb hss hn
  go_enter Tryz.func48, Tryz.ntmps48
  go_wp2
  go_loopg [36] n (fun gk s36 wr => ∃ k, k + gk = n ∧ s36 = .int .i64 (k : Nat) ∧ Rowed w n (rowF l) k wr ∧ ∀ j, j < k → isPlain (jth l j) = true)
  case atStart => exact ⟨0, by omega, by go_num, Rowed.start w n _, fun j hj => absurd hj (by omega)⟩
  case round =>
    obtain ⟨k, hk, rfl, R, hpl⟩ := hrel
    have HPL := Lib.hid hpl
    have R0 := Lib.hid R
    clear hmk hts hpl
    by_cases hlt : k < n
    · obtain ⟨b, o, rfl, hb, _, hc⟩ := (HS.out.old R.2).at_ k hlt
      have e0 : wr.cell? ⟨b, o + k, none⟩ = some (X k) := by simpa using hc 0 (by decide)
      have hkl : k < l.length := by rw [← HN.out]; exact hlt
      have hx : KJ wr ok (jth l k) (X k) := by have := (HR.out k hkl).old R.2; rwa [jth_eq] at this
      have hmem : jth l k ∈ l := by rw [← jth_eq l k hkl]; exact List.getElem_mem _
      have hjb := HJB.out _ hmem
      have HMEM := Lib.hid hmem
      have HSK := Lib.hid (fun s (hs : jth l k = .str s) => HSS.out s (by rw [← hs]; exact hmem))
      have HPK := Lib.hid (plain_more (k := k) HPL.out)
      have HF := Lib.hid (show rowF l k = jText (jth l k) from rfl)
      have hkn : (k : Int) < (n : Nat) := by omega
      have t1 : IntKind.i64.wrap ((k : Int) + 1) = (k : Int) + 1 := IntWalk.i64_in _ (by omega)
      obtain ⟨⟨y, hy⟩, hfz, hgl⟩ := R.cell k hlt
      generalize X k = x at *
      generalize jth l k = jk at *
      clear hc hmem R
      cases hx with
      | nil =>
        have a1 : ∀ W, (Instr.typeAssert (.nilIface) 20 59 true).run Tryz.prog W = .ok (.tuple #[.slice none 0 0, .bool false]) W := fun W => by kernel_rfl
        have a2 : ∀ W, (Instr.typeAssert (.nilIface) 20 62 true).run Tryz.prog W = .ok (.tuple #[.map none, .bool false]) W := fun W => by kernel_rfl
        have a3 : ∀ W, (Instr.typeAssert (.nilIface) 20 9 true).run Tryz.prog W = .ok (.tuple #[.string ⟨#[]⟩, .bool false]) W := fun W => by kernel_rfl
        have HJ := Lib.hid (fun W => json_nil W)
        have hne : (nullS.toList == [110, 117, 108, 108]) = true := by rw [Lib.toList_data]; rfl
        clear hjb
        go_wp2_with (go_at_call 60; go_must (refine (HJ.out _).mono ?_; rintro e w2 ⟨rfl, ho2⟩; clear hy hfz hgl; have HR2 := Lib.hid (R0.out.later ho2); obtain ⟨⟨y2, hy2⟩, hfz2, hgl2⟩ := HR2.out.cell k hlt; clear ho2))
        go_roundg (gk - 1)
        case measure => omega
        case rel => exact ⟨k + 1, by omega, by go_num, HR2.out.skip HF.out, HPK.out (by rfl)⟩
      | bool cc =>
        have a1 : ∀ W, (Instr.typeAssert (.iface 4 (.bool cc)) 20 59 true).run Tryz.prog W = .ok (.tuple #[.slice none 0 0, .bool false]) W := fun W => by kernel_rfl
        have a2 : ∀ W, (Instr.typeAssert (.iface 4 (.bool cc)) 20 62 true).run Tryz.prog W = .ok (.tuple #[.map none, .bool false]) W := fun W => by kernel_rfl
        have a3 : ∀ W, (Instr.typeAssert (.iface 4 (.bool cc)) 20 9 true).run Tryz.prog W = .ok (.tuple #[.string ⟨#[]⟩, .bool false]) W := fun W => by kernel_rfl
        have HJ := Lib.hid (fun W => json_bool cc W)
        have hne : ((if cc = true then trueS else falseS).toList == [110, 117, 108, 108]) = false := by cases cc <;> (rw [Lib.toList_data]; rfl)
        have HF2 := Lib.hid (show rowF l k = if cc = true then trueS else falseS from HF.out)
        obtain ⟨s, hs⟩ : ∃ s, s = if cc = true then trueS else falseS := ⟨_, rfl⟩
        rw [← hs] at hne HJ HF2
        clear hs
        clear hjb
        go_wp2_with (go_at_call 60; go_must (refine (HJ.out _).mono ?_; rintro e w2 ⟨rfl, ho2⟩; clear hy hfz hgl; have HR2 := Lib.hid (R0.out.later ho2); obtain ⟨⟨y2, hy2⟩, hfz2, hgl2⟩ := HR2.out.cell k hlt; clear ho2))
        go_roundg (gk - 1)
        case measure => omega
        case rel => exact ⟨k + 1, by omega, by go_num, by have := HR2.out.put hlt; rw [HF2.out] at this; exact this, HPK.out (by rfl)⟩
      | int m =>
        have a1 : ∀ W, (Instr.typeAssert (.iface 3 (.int .i64 m)) 20 59 true).run Tryz.prog W = .ok (.tuple #[.slice none 0 0, .bool false]) W := fun W => by kernel_rfl
        have a2 : ∀ W, (Instr.typeAssert (.iface 3 (.int .i64 m)) 20 62 true).run Tryz.prog W = .ok (.tuple #[.map none, .bool false]) W := fun W => by kernel_rfl
        have a3 : ∀ W, (Instr.typeAssert (.iface 3 (.int .i64 m)) 20 9 true).run Tryz.prog W = .ok (.tuple #[.string ⟨#[]⟩, .bool false]) W := fun W => by kernel_rfl
        have HJ := Lib.hid (fun W => json_int m hjb W)
        have hne : ((istr m).toList == [110, 117, 108, 108]) = false := not_null (low_istr _)
        have HF2 := Lib.hid (show rowF l k = istr m from HF.out)
        obtain ⟨s, hs⟩ : ∃ s, s = istr m := ⟨_, rfl⟩
        rw [← hs] at hne HJ HF2
        clear hs
        clear hjb
        go_wp2_with (go_at_call 60; go_must (refine (HJ.out _).mono ?_; rintro e w2 ⟨rfl, ho2⟩; clear hy hfz hgl; have HR2 := Lib.hid (R0.out.later ho2); obtain ⟨⟨y2, hy2⟩, hfz2, hgl2⟩ := HR2.out.cell k hlt; clear ho2))
        go_roundg (gk - 1)
        case measure => omega
        case rel => exact ⟨k + 1, by omega, by go_num, by have := HR2.out.put hlt; rw [HF2.out] at this; exact this, HPK.out (by rfl)⟩
      | flt hh =>
        have a1 : ∀ W, (Instr.typeAssert (.iface 58 (.float .f64 (fhalf hh))) 20 59 true).run Tryz.prog W = .ok (.tuple #[.slice none 0 0, .bool false]) W := fun W => by kernel_rfl
        have a2 : ∀ W, (Instr.typeAssert (.iface 58 (.float .f64 (fhalf hh))) 20 62 true).run Tryz.prog W = .ok (.tuple #[.map none, .bool false]) W := fun W => by kernel_rfl
        have a3 : ∀ W, (Instr.typeAssert (.iface 58 (.float .f64 (fhalf hh))) 20 9 true).run Tryz.prog W = .ok (.tuple #[.string ⟨#[]⟩, .bool false]) W := fun W => by kernel_rfl
        have HJ := Lib.hid (fun W => json_float hh hjb.1 hjb.2 W)
        have hne : ((fstr hh).toList == [110, 117, 108, 108]) = false := not_null (low_fstr _)
        have HF2 := Lib.hid (show rowF l k = fstr hh from HF.out)
        obtain ⟨s, hs⟩ : ∃ s, s = fstr hh := ⟨_, rfl⟩
        rw [← hs] at hne HJ HF2
        clear hs
        clear hjb
        go_wp2_with (go_at_call 60; go_must (refine (HJ.out _).mono ?_; rintro e w2 ⟨rfl, ho2⟩; clear hy hfz hgl; have HR2 := Lib.hid (R0.out.later ho2); obtain ⟨⟨y2, hy2⟩, hfz2, hgl2⟩ := HR2.out.cell k hlt; clear ho2))
        go_roundg (gk - 1)
        case measure => omega
        case rel => exact ⟨k + 1, by omega, by go_num, by have := HR2.out.put hlt; rw [HF2.out] at this; exact this, HPK.out (by rfl)⟩
      | str s =>
        have a1 : ∀ W, (Instr.typeAssert (.iface 9 (.string s)) 20 59 true).run Tryz.prog W = .ok (.tuple #[.slice none 0 0, .bool false]) W := fun W => by kernel_rfl
        have a2 : ∀ W, (Instr.typeAssert (.iface 9 (.string s)) 20 62 true).run Tryz.prog W = .ok (.tuple #[.map none, .bool false]) W := fun W => by kernel_rfl
        have a3 : ∀ W, (Instr.typeAssert (.iface 9 (.string s)) 20 9 true).run Tryz.prog W = .ok (.tuple #[.string s, .bool true]) W := fun W => by kernel_rfl
        have HJ := Lib.hid (repl_any wr ge (HE.out.old R0.out.2) s hjb)
        clear hjb
        go_wp2_with (go_at_call 50; go_must (refine HJ.out.mono ?_; rintro e w2 ⟨rfl, ho2⟩; clear hy hfz hgl; have HR2 := Lib.hid (R0.out.later ho2); obtain ⟨⟨y2, hy2⟩, hfz2, hgl2⟩ := HR2.out.cell k hlt; clear ho2))
        go_roundg (gk - 1)
        case measure => omega
        case rel => exact ⟨k + 1, by omega, by go_num, by have := HR2.out.put hlt; rw [HF.out] at this; exact this, HPK.out (by rfl)⟩
      | arr la v X s r =>
        have a1 : ∀ W, (Instr.typeAssert (.iface 59 v) 20 59 true).run Tryz.prog W = .ok (.tuple #[v, .bool true]) W := fun W => by kernel_rfl
        have a2 : ∀ W, (Instr.typeAssert (.iface 59 v) 20 62 true).run Tryz.prog W = .ok (.tuple #[.map none, .bool false]) W := fun W => by kernel_rfl
        clear s r
        go_wp2
        go_ret
        exact ⟨.inr ⟨⟨_, HMEM.out, rfl⟩, _, rfl⟩, R0.out.2.alloc _⟩
      | obj ks vs bm xs hbm hm hxl r =>
        have a1 : ∀ W, (Instr.typeAssert (.iface 62 (.map (some bm))) 20 59 true).run Tryz.prog W = .ok (.tuple #[.slice none 0 0, .bool false]) W := fun W => by kernel_rfl
        have a2 : ∀ W, (Instr.typeAssert (.iface 62 (.map (some bm))) 20 62 true).run Tryz.prog W = .ok (.tuple #[.map (some bm), .bool true]) W := fun W => by kernel_rfl
        clear hm hxl r hbm
        go_wp2
        go_ret
        exact ⟨.inr ⟨⟨_, HMEM.out, rfl⟩, _, rfl⟩, R0.out.2.alloc _⟩
    · obtain rfl : k = n := by omega
      have hlm : (l.map jText).length = k := by rw [List.length_map, HN.out]
      have hgd : ∀ i, i < k → (l.map jText).getD i ⟨#[]⟩ = rowF l i := fun i hi => by
        have hil : i < l.length := by rw [← HN.out]; exact hi
        rw [List.getD_eq_getElem?_getD, List.getElem?_map, List.getElem?_eq_getElem hil, jth_eq]
        rfl
      have hall : ∀ x ∈ l.map jText, x.size ≤ 8192 := fun x hx => by
        obtain ⟨j, hj, rfl⟩ := List.mem_map.1 hx
        exact jText_size (HJB.out j hj) fun s hs => HSS.out s (by rw [← hs]; exact hj)
      have hsz := sizes_le 8192 (l.map jText) (l.map jText).length hall
      have hsz2 : (l.map jText).length * 8192 ≤ 2147483648 * 8192 := Nat.mul_le_mul_right _ (by omega)
      have hjn := join_any wr w.heap.size k (l.map jText) (R.texts hlm hgd) (by omega) (by omega) (by omega)
      rw [hlm] at hjn
      have HJN := Lib.hid hjn
      have HALL := Lib.hid (show ∀ x ∈ l, isPlain x = true from fun x hx => by
        obtain ⟨j, hj, rfl⟩ := List.getElem_of_mem hx
        rw [jth_eq]
        exact HPL.out j (by rw [HN.out]; exact hj))
      clear hlm hgd hall hsz hsz2 hjn R
      go_wp2_with (go_at_call 61; go_must (refine HJN.out.mono ?_; rintro e w5 ⟨rfl, ho5⟩; have HO5 := Lib.hid (R0.out.2.trans ho5); clear ho5))
      go_ret
      exact ⟨.inl ⟨HALL.out, rfl⟩, HO5.out⟩
end Go.Proofs.YthggnkmlnjlggaaGreatDoor
