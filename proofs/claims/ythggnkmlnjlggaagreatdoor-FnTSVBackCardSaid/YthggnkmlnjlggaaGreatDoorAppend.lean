/-
  Numbers appended as text to the encoder's room: the walks of AppendFloat and AppendInt.
  Conditions: none.
-/
import Derived.Test.YthggnkmlnjlggaaGreatDoorFmt
import Derived.Laws.IdiomCopy
namespace Go.Proofs.YthggnkmlnjlggaaGreatDoor
open Go.RowKit Ieee
attribute [local go_sem ↓] Go.wp_at_zero Go.wp_at_succ

/-- The encoder in memory: where it writes, and room for 64 bytes. -/
structure EncAt (w : World) (eb : Nat) (c0 : Value) (cs : Array Value) : Prop where
  blk : Blk w eb cs 118
  size : cs.size = 65
  out : cs[0]? = some c0
theorem EncAt.old {w w' : World} {eb : Nat} {c0 : Value} {cs : Array Value} (h : EncAt w eb c0 cs) (ho : Old w w') : EncAt w' eb c0 cs := ⟨h.blk.old ho, h.size, h.out⟩
theorem blk_setCells {eb : Nat} {t : TypeId} : ∀ (vs : List Value) (o : Nat) (w : World) (cs : Array Value), Blk w eb cs t → ∃ cs', Blk (w.setCells eb o vs) eb cs' t ∧ cs'.size = cs.size
  | [], _, _, cs, h => ⟨cs, h, rfl⟩
  | v :: r, o, w, cs, h => by
    obtain ⟨cs', h1, h2⟩ := blk_setCells r (o + 1) _ _ (h.set o v)
    exact ⟨cs', h1, by simpa using h2⟩
theorem chg_setCells {eb : Nat} : ∀ (vs : List Value) (o : Nat) (w : World), Chg (fun b => b ≠ eb) w (w.setCells eb o vs)
  | [], _, w => Chg.refl _ w
  | v :: r, o, w => ((Chg.refl _ w).setCell ⟨eb, o, none⟩ v fun _ h => h rfl).trans (chg_setCells r (o + 1) _)
/-- What an append leaves: the text in the encoder's room. -/
def AppAns (w : World) (eb : Nat) (c0 : Value) (s : ByteArray) (e : Ending) (w' : World) : Prop :=
  e = .returned (.slice (some ⟨eb, 1, none⟩) s.size 64) ∧ ∃ cs', EncAt w' eb c0 cs' ∧ (∀ i, i < s.size → w'.cell? ⟨eb, 1 + i, none⟩ = some (.int .u8 ((s.data.toList.getD i 0).toNat : Int))) ∧ Chg (fun b => b ≠ eb) w w'
theorem enc_app {w : World} {eb : Nat} {c0 : Value} {cs : Array Value} (h : EncAt w eb c0 cs) (s : ByteArray) (hs : s.size ≤ 64) :
    (Builtin.append_ #[75, 9] 75 #[.slice (some ⟨eb, 1, none⟩) 0 64, .string s]).run Tryz.prog w = .ok (.slice (some ⟨eb, 1, none⟩) s.size 64) (w.setCells eb 1 (byteCells s)) ∧
    AppAns w eb c0 s (.returned (.slice (some ⟨eb, 1, none⟩) s.size 64)) (w.setCells eb 1 (byteCells s)) := by
  obtain ⟨iv, hi, hz0, hz1, hz2⟩ := info_parts Tryz.infoByte
  have hlen : (byteCells s).length = s.size := by simp [byteCells]
  have hcell : ∀ j, j < s.size → (w.cell? ⟨eb, 1 + j, none⟩).isSome = true := fun j hj => by
    rw [h.blk.cell, Array.getElem?_eq_getElem (by have := h.size; omega)]
    rfl
  have hsrc : Src Tryz.prog iv.size 9 (.string s) s.size (byteCells s) w := by
    rw [hz1]
    exact Src.ofString w Tryz.underlying9 s
  have hrun := run_append_room_src (P := Tryz.prog) w 75 9 75 5 iv Tryz.underlying75 hi eb 1 0 64 (.string s) s.size (byteCells s) hsrc (by omega) (fun j hj => by
    rw [hz1]
    exact hcell j (by omega)) (fun j hj => h.blk.frozen _)
  rw [hz1, Nat.zero_add, Nat.zero_mul, Nat.add_zero] at hrun
  refine ⟨hrun, rfl, ?_⟩
  obtain ⟨cs', hb', hsz'⟩ := blk_setCells (byteCells s) 1 w cs h.blk
  refine ⟨cs', ⟨hb', hsz'.trans h.size, ?_⟩, fun i hi' => ?_, chg_setCells _ _ _⟩
  · rw [← hb'.cell 0, World.cell?_setCells_out _ _ _ _ _ (fun _ _ => .inl (by simp)), h.blk.cell 0]
    exact h.out
  · rw [World.cell?_setCells_in eb (byteCells s) 1 w (fun j hj => hcell j (by omega)) i (by omega)]
    simp [byteCells, List.getD_eq_getElem?_getD, List.getElem?_eq_getElem (show i < s.data.toList.length by simpa using hi')]
theorem enc_store {w : World} {eb : Nat} {c0 : Value} {cs : Array Value} (h : EncAt w eb c0 cs) (s : ByteArray) (hs : s.size ≤ 64) :
    (storeCells ⟨eb, 1, none⟩ (List.take s.size (List.map (fun b => Value.int .u8 (b.toNat : Int)) s.data.toList))).run Tryz.prog w = .ok () (w.setCells eb 1 (byteCells s)) := by
  have hlen : (byteCells s).length = s.size := by simp [byteCells]
  have e : List.take s.size (List.map (fun b => Value.int .u8 (b.toNat : Int)) s.data.toList) = byteCells s := List.take_of_length_le (by rw [← hlen]; exact Nat.le_refl _)
  rw [e]
  have hst := run_storeCells_cells (P := Tryz.prog) eb 1 (byteCells s) 0 w (fun j hj => by
    rw [h.blk.cell, Array.getElem?_eq_getElem (by have := h.size; omega)]
    rfl) (fun j hj => h.blk.frozen _) (fun v hv => by
    simp only [byteCells, List.mem_map] at hv
    obtain ⟨b, _, rfl⟩ := hv
    rfl)
  exact hst
theorem AppAns.from {w w2 w3 : World} {eb : Nat} {c0 : Value} {s : ByteArray} {e : Ending} (ho : Old w w2) (h : AppAns w2 eb c0 s e w3) : AppAns w eb c0 s e w3 := by
  obtain ⟨h1, cs', h2, h3, h4⟩ := h
  exact ⟨h1, cs', h2, h3, ho.chg.trans h4⟩
theorem fstr_size {h : Int} (hb : -9007199254740992 < h ∧ h < 9007199254740992) : (fstr h).size ≤ 64 := by
  have := hstr_size (h := h.natAbs) (by omega)
  unfold fstr
  rw [ByteArray.size_append]
  by_cases hn : h < 0
  · rw [if_pos hn]
    have : (ByteArray.mk #[45]).size = 1 := rfl
    omega
  · rw [if_neg hn]
    have : (ByteArray.mk #[]).size = 0 := rfl
    omega
theorem istr_size {n : Int} (hb : -9007199254740992 ≤ n ∧ n ≤ 9007199254740992) : (istr n).size ≤ 64 := by
  have := dstr_size (n := n.natAbs) (k := 17) (by omega) (by decide)
  unfold istr
  by_cases hn : n < 0
  · rw [if_pos hn, ByteArray.size_append]
    have : (ByteArray.mk #[45]).size = 1 := rfl
    omega
  · rw [if_neg hn]
    omega
set_option maxHeartbeats 1000000 in
set_option maxRecDepth 100000 in
theorem append_float (w : World) (eb : Nat) (c0 : Value) (cs : Array Value) (hE : EncAt w eb c0 cs) (h : Int) (ho : h % 2 = 1) (hb : -9007199254740992 < h ∧ h < 9007199254740992) :
    Calls Tryz.prog 101 #[.slice (some ⟨eb, 1, none⟩) 0 64, .float .f64 (fhalf h), .int .u8 102, .int .i64 (-1), .int .i64 64] w (AppAns w eb c0 (fstr h)) := by
  have HF := Lib.hid (format_half h ho hb w)
  have HE := Lib.hid hE
  have hsz := fstr_size hb
  generalize fhalf h = B at *
  generalize fstr h = s at *
  clear hE ho hb
  go_enter Tryz.func101, Tryz.ntmps101
  go_wp2_with (go_at_call 115; go_must (with_reducible refine HF.out.mono ?_; rintro e w2 ⟨rfl, ho⟩; have hrun := enc_store (HE.out.old ho) s hsz; have hans := (enc_app (HE.out.old ho) s hsz).2; have HANS := Lib.hid (AppAns.from ho hans); clear ho hans))
  go_ret
  exact HANS.out
set_option maxHeartbeats 1000000 in
set_option maxRecDepth 100000 in
theorem append_int (w : World) (eb : Nat) (c0 : Value) (cs : Array Value) (hE : EncAt w eb c0 cs) (n : Int) (hb : -9007199254740992 ≤ n ∧ n ≤ 9007199254740992) :
    Calls Tryz.prog 79 #[.slice (some ⟨eb, 1, none⟩) 0 64, .int .i64 n, .int .i64 10] w (AppAns w eb c0 (istr n)) := by
  have HF := Lib.hid (format_int n hb w)
  have HE := Lib.hid hE
  have hsz := istr_size hb
  generalize istr n = s at *
  clear hE hb
  go_enter Tryz.func79, Tryz.ntmps79
  go_wp2_with (go_at_call 99; go_must (with_reducible refine HF.out.mono ?_; rintro e w2 ⟨rfl, ho⟩; have hrun := enc_store (HE.out.old ho) s hsz; have hans := (enc_app (HE.out.old ho) s hsz).2; have HANS := Lib.hid (AppAns.from ho hans); clear ho hans))
  go_ret
  exact HANS.out
end Go.Proofs.YthggnkmlnjlggaaGreatDoor
