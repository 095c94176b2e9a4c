/-
  Half of an odd number, encoded: the walk of encodeFloat64.
  Conditions: none.
-/
import Derived.Test.YthggnkmlnjlggaaGreatDoorBld
import Derived.Test.YthggnkmlnjlggaaGreatDoorFlc
import Derived.Test.YthggnkmlnjlggaaGreatDoorRefB
namespace Go.Proofs.YthggnkmlnjlggaaGreatDoor
open Go.RowKit Ieee
attribute [local go_sem ↓] Go.wp_at_zero Go.wp_at_succ

set_option maxRecDepth 100000 in
theorem not_nan (X : Nat) (w : World) (h : FloatKind.f64.format.order X X = some .eq) : Calls Tryz.prog 100 #[.float .f64 X] w fun e w' => e = .returned (.bool false) ∧ w' = w := by
  go_enter Tryz.func100, Tryz.ntmps100
  go_wp2
  go_ret
  exact ⟨rfl, rfl⟩
theorem slice_none (g o : Nat) (w : World) : (Instr.sliceAt 116 (.pointer (some ⟨g, o, none⟩)) none (some (.int .i64 0)) none).run Tryz.prog w = .ok (.slice (some ⟨g, o, none⟩) 0 64) w := by
  have hal : Tryz.prog.arrayLen 116 = 64 := by kernel_rfl
  have hu : Tryz.prog.underlying 116 = some (.array (Tryz.prog.arrayLen 116) (Tryz.prog.elem 116)) := by kernel_rfl
  have hsz : (sizeOf (Tryz.prog.elem 116)).run Tryz.prog w = .ok 1 w := by kernel_rfl
  rw [run_sliceAt_array_h w 116 ⟨g, o, none⟩ hu .i64 0 (by omega) (by rw [hal]; omega), hsz, hal]
  have hadd : (⟨g, o, none⟩ : Addr).add 0 = ⟨g, o, none⟩ := by unfold Addr.add; split <;> simp_all
  simp [slicedAt, Result.andThen, hadd]
theorem meth_write (n b : Nat) (w : World) : (method (n + 1) 111 (.pointer (some ⟨b, 0, none⟩)) "Write").run Tryz.prog w = .ok (183, .pointer (some ⟨b, 0, none⟩)) w := by kernel_rfl
theorem meth_string (n b : Nat) (w : World) : (method (n + 1) 111 (.pointer (some ⟨b, 0, none⟩)) "WriteString").run Tryz.prog w = .ok (71, .pointer (some ⟨b, 0, none⟩)) w := by kernel_rfl
theorem fstr_pos (h : Int) : 0 < (fstr h).size := by
  have h1 : 0 < (hstr h.natAbs).size := by
    show 0 < (((digs (h.natAbs / 2)).map dsign ++ [46, 53]).toArray).size
    rw [List.size_toArray, List.length_append]
    exact Nat.lt_of_lt_of_le (show 0 < 2 by decide) (Nat.le_add_left _ _)
  unfold fstr
  rw [ByteArray.size_append]
  omega
/-- An encoder that writes to a builder. -/
structure EncB (w : World) (B b eb : Nat) (bs : List Value) (cs : Array Value) : Prop where
  bld : Bld B b bs w
  enc : EncAt w eb (.iface 111 (.pointer (some ⟨b, 0, none⟩))) cs
  ne : eb ≠ b
  base : B ≤ eb
  low : B ≤ w.heap.size
theorem Bld.chg {w w' : World} {B b eb : Nat} {bs : List Value} {cs : Array Value} (h : Bld B b bs w) (he : Blk w eb cs 118) (hne : eb ≠ b) (hc : Chg (fun k => k ≠ eb) w w') : Bld B b bs w' := by
  have key : ∀ p, Lib.BuilderAt 113 5 B b p bs w → Lib.BuilderAt 113 5 B b p bs w' := by
    rintro p ⟨h1, v, h2, h3, h4⟩
    have hlt : b < w.heap.size := (Array.getElem?_eq_some_iff.1 h2).1
    exact ⟨h1, v, (hc.block b hlt (fun e => hne e.symm)).trans h2, own_chg h3 hc fun k hk e => own_ne h3 he (by decide) (by rw [hk, e]), h4⟩
  rcases h with h | h
  · exact .inl (key _ h)
  · exact .inr (key _ h)
/-- What an encoding leaves. -/
def EncAns (w : World) (B b : Nat) (bs : List Value) (s : ByteArray) (e : Ending) (w' : World) : Prop := e = .returned (.tuple #[]) ∧ Bld B b (bs ++ Lib.strCells s) w' ∧ Below B w w'
set_option maxHeartbeats 4000000 in
set_option maxRecDepth 100000 in
theorem encode_half (w : World) (B b eb : Nat) (bs : List Value) (cs : Array Value) (hE : EncB w B b eb bs cs) (hbs : bs.length ≤ 1000000) (h : Int) (ho : h % 2 = 1) (hb : -9007199254740992 < h ∧ h < 9007199254740992) :
    Calls Tryz.prog 80 #[.pointer (some ⟨eb, 0, none⟩), .float .f64 (fhalf h)] w (EncAns w B b bs (fstr h)) := by
  have h0 : h ≠ 0 := by omega
  have hb2 : -9007199254740992 < h ∧ h < 9007199254740992 := by omega
  have hmx := fun W ts t => run_max_half h0 hb2 (P := Tryz.prog) W ts t
  have hmn := fun W ts t => run_min_half h0 hb2 (P := Tryz.prog) W ts t
  have HN := Lib.hid (not_nan (fhalf h) w (half_self h0 hb2))
  have HA := Lib.hid (fun W => abs_any h0 hb2 W)
  have hap : (0 : Int) < (h.natAbs : Int) := by omega
  have hab : -9007199254740992 < (h.natAbs : Int) ∧ (h.natAbs : Int) < 9007199254740992 := by omega
  have hc1 : FloatKind.f64.format.order (fhalf (h.natAbs : Int)) 0 = some .gt := half_zero (by omega) hab hap
  have hc2 : FloatKind.f64.format.order (fhalf (h.natAbs : Int)) 4517329193108106637 = some .gt := half_micro (by omega) hab hap
  have hc3 : FloatKind.f64.format.order (fhalf (h.natAbs : Int)) 4921056587992461136 = some .lt := half_big (by omega) hab hap
  have HF := Lib.hid (fun W cs' (hE' : EncAt W eb (.iface 111 (.pointer (some ⟨b, 0, none⟩))) cs') => append_float W eb _ cs' hE' h ho hb)
  have hsz := fstr_size hb
  have hpos := fstr_pos h
  generalize fhalf (h.natAbs : Int) = M at *
  generalize fhalf h = X at *
  generalize fstr h = s at *
  have c0 : w.cell? ⟨eb, 0, none⟩ = some (.iface 111 (.pointer (some ⟨b, 0, none⟩))) := by rw [hE.enc.blk.cell]; exact hE.enc.out
  have hsl := slice_none eb 1
  have hmw := meth_write
  have HE := Lib.hid hE
  clear hE h0 hb2 hap hab ho hb
  go_enter Tryz.func80, Tryz.ntmps80
  go_upto_region 8 with (first | (go_at_call 100; go_must (with_reducible refine HN.out.mono ?_; rintro e w5 ⟨rfl, rfl⟩)) | (go_at_call 72; go_must (refine (HA.out _).mono ?_; rintro e w5 ⟨rfl, rfl⟩)) | (go_at_call 101; go_must (refine (HF.out _ cs HE.out.enc).mono ?_; rintro e w2 ⟨rfl, cs2, hE2, hcl, hch⟩)))
  have c2 : w2.cell? ⟨eb, 0, none⟩ = some (.iface 111 (.pointer (some ⟨b, 0, none⟩))) := by rw [hE2.blk.cell]; exact hE2.out
  have hsz2 := hch.size
  have hB2 : Bld B b bs w2 := HE.out.bld.chg HE.out.enc.blk HE.out.ne hch
  have HW := Lib.hid (bld_write B b bs s w2 hB2 eb 64 HE.out.ne hpos hcl (by omega) (by have := HE.out.low; omega))
  have HBL := Lib.hid (show Below B _ w2 from ⟨hch.os, hch.tape, hch.output, hch.size, fun k hk => hch.block k (by have := HE.out.low; omega) (by have := HE.out.base; omega)⟩)
  clear hcl hch hE2 hB2
  go_wp2_with (go_at_call 183; go_must (refine HW.out.mono ?_; rintro e w3 ⟨rfl, hb3, hbl3⟩; have HB3 := Lib.hid hb3; have HBL3 := Lib.hid hbl3; clear hb3 hbl3))
  go_end0
  exact ⟨rfl, HB3.out, HBL.out.trans HBL3.out⟩
end Go.Proofs.YthggnkmlnjlggaaGreatDoor
namespace Go.Proofs.YthggnkmlnjlggaaGreatDoor
open Go.RowKit Ieee
attribute [local go_sem ↓] Go.wp_at_zero Go.wp_at_succ

theorem EncB.cell {w : World} {B b eb : Nat} {bs : List Value} {cs : Array Value} (h : EncB w B b eb bs cs) : w.cell? ⟨eb, 0, none⟩ = some (.iface 111 (.pointer (some ⟨b, 0, none⟩))) := by
  rw [h.enc.blk.cell]
  exact h.enc.out
theorem bool_bool (v : Value) (w : World) : (Instr.typeAssert (.iface 4 v) 20 4 true).run Tryz.prog w = .ok (.tuple #[v, .bool true]) w := by kernel_rfl
theorem int_bool (v : Value) (w : World) : (Instr.typeAssert (.iface 3 v) 20 4 true).run Tryz.prog w = .ok (.tuple #[.bool false, .bool false]) w := by kernel_rfl
theorem int_int (v : Value) (w : World) : (Instr.typeAssert (.iface 3 v) 20 3 true).run Tryz.prog w = .ok (.tuple #[v, .bool true]) w := by kernel_rfl
theorem flt_bool (v : Value) (w : World) : (Instr.typeAssert (.iface 58 v) 20 4 true).run Tryz.prog w = .ok (.tuple #[.bool false, .bool false]) w := by kernel_rfl
theorem flt_toint (v : Value) (w : World) : (Instr.typeAssert (.iface 58 v) 20 3 true).run Tryz.prog w = .ok (.tuple #[.int .i64 0, .bool false]) w := by kernel_rfl
theorem flt_flt (v : Value) (w : World) : (Instr.typeAssert (.iface 58 v) 20 58 true).run Tryz.prog w = .ok (.tuple #[v, .bool true]) w := by kernel_rfl
theorem istr_pos (n : Int) : 0 < (istr n).size := by
  have h1 : 0 < (dstr n.natAbs).size := by
    rw [dstr_len]
    exact List.length_pos_iff.2 (digs_ne _)
  unfold istr
  split
  · rw [ByteArray.size_append]
    omega
  · exact h1
set_option maxHeartbeats 2000000 in
set_option maxRecDepth 100000 in
theorem encode_nil (w : World) (B b eb : Nat) (bs : List Value) (cs : Array Value) (hE : EncB w B b eb bs cs) (hbs : bs.length ≤ 1000000) :
    Calls Tryz.prog 68 #[.pointer (some ⟨eb, 0, none⟩), .nilIface] w (EncAns w B b bs nullS) := by
  have c0 := hE.cell
  have hms := meth_string
  have HW := Lib.hid (bld_string B b bs ⟨#[110, 117, 108, 108]⟩ w hE.bld (by have : (ByteArray.mk #[110, 117, 108, 108]).size = 4 := rfl; omega) hE.low)
  clear hE
  go_enter Tryz.func68, Tryz.ntmps68
  go_wp2_with (go_at_call 71; go_must (refine HW.out.mono ?_; rintro e w3 ⟨rfl, hb3, hbl3⟩; have HB3 := Lib.hid hb3; have HBL3 := Lib.hid hbl3; clear hb3 hbl3))
  go_end0
  exact ⟨rfl, HB3.out, HBL3.out⟩
set_option maxHeartbeats 2000000 in
set_option maxRecDepth 100000 in
theorem encode_true (w : World) (B b eb : Nat) (bs : List Value) (cs : Array Value) (hE : EncB w B b eb bs cs) (hbs : bs.length ≤ 1000000) :
    Calls Tryz.prog 68 #[.pointer (some ⟨eb, 0, none⟩), .iface 4 (.bool true)] w (EncAns w B b bs trueS) := by
  have c0 := hE.cell
  have hms := meth_string
  have HW := Lib.hid (bld_string B b bs ⟨#[116, 114, 117, 101]⟩ w hE.bld (by have : (ByteArray.mk #[116, 114, 117, 101]).size = 4 := rfl; omega) hE.low)
  have a1 := bool_bool
  clear hE
  go_enter Tryz.func68, Tryz.ntmps68
  go_wp2_with (go_at_call 71; go_must (refine HW.out.mono ?_; rintro e w3 ⟨rfl, hb3, hbl3⟩; have HB3 := Lib.hid hb3; have HBL3 := Lib.hid hbl3; clear hb3 hbl3))
  go_end0
  exact ⟨rfl, HB3.out, HBL3.out⟩
set_option maxHeartbeats 2000000 in
set_option maxRecDepth 100000 in
theorem encode_false (w : World) (B b eb : Nat) (bs : List Value) (cs : Array Value) (hE : EncB w B b eb bs cs) (hbs : bs.length ≤ 1000000) :
    Calls Tryz.prog 68 #[.pointer (some ⟨eb, 0, none⟩), .iface 4 (.bool false)] w (EncAns w B b bs falseS) := by
  have c0 := hE.cell
  have hms := meth_string
  have HW := Lib.hid (bld_string B b bs ⟨#[102, 97, 108, 115, 101]⟩ w hE.bld (by have : (ByteArray.mk #[102, 97, 108, 115, 101]).size = 5 := rfl; omega) hE.low)
  have a1 := bool_bool
  clear hE
  go_enter Tryz.func68, Tryz.ntmps68
  go_wp2_with (go_at_call 71; go_must (refine HW.out.mono ?_; rintro e w3 ⟨rfl, hb3, hbl3⟩; have HB3 := Lib.hid hb3; have HBL3 := Lib.hid hbl3; clear hb3 hbl3))
  go_end0
  exact ⟨rfl, HB3.out, HBL3.out⟩
set_option maxHeartbeats 2000000 in
set_option maxRecDepth 100000 in
theorem encode_float (w : World) (B b eb : Nat) (bs : List Value) (cs : Array Value) (hE : EncB w B b eb bs cs) (hbs : bs.length ≤ 1000000) (h : Int) (ho : h % 2 = 1) (hb : -9007199254740992 < h ∧ h < 9007199254740992) :
    Calls Tryz.prog 68 #[.pointer (some ⟨eb, 0, none⟩), .iface 58 (.float .f64 (fhalf h))] w (EncAns w B b bs (fstr h)) := by
  have HW := Lib.hid (encode_half w B b eb bs cs hE hbs h ho hb)
  generalize fhalf h = X at *
  generalize fstr h = s at *
  have a1 := flt_bool
  have a2 := flt_toint
  have a3 := flt_flt
  clear hE
  go_enter Tryz.func68, Tryz.ntmps68
  go_wp2_with (go_at_call 80; go_must (refine HW.out.mono ?_; rintro e w3 ⟨rfl, hb3⟩; have HB3 := Lib.hid hb3; clear hb3))
  go_end0
  exact ⟨rfl, HB3.out⟩
set_option maxHeartbeats 4000000 in
set_option maxRecDepth 100000 in
theorem encode_int (w : World) (B b eb : Nat) (bs : List Value) (cs : Array Value) (hE : EncB w B b eb bs cs) (hbs : bs.length ≤ 1000000) (n : Int) (hb : -9007199254740992 ≤ n ∧ n ≤ 9007199254740992) :
    Calls Tryz.prog 68 #[.pointer (some ⟨eb, 0, none⟩), .iface 3 (.int .i64 n)] w (EncAns w B b bs (istr n)) := by
  have c0 := hE.cell
  have a1 := int_bool
  have a2 := int_int
  have hsl := slice_none eb 1
  have hmw := meth_write
  have hsz := istr_size hb
  have hpos := istr_pos n
  have HF := Lib.hid (fun W (hW : Old w W) => append_int W eb _ cs (hE.enc.old hW) n hb)
  generalize istr n = s at *
  have HE := Lib.hid hE
  clear hE hb
  go_enter Tryz.func68, Tryz.ntmps68
  go_upto_region 13 with (fail)
  go_region_with (first | (go_at_call 79; go_must (refine (HF.out _ (by first | exact Old.refl _ | exact (Old.refl _).drew | exact (Old.refl _).drewN _)).mono ?_; rintro e w2 ⟨rfl, cs2, hE2, hcl, hch⟩; have c2 : w2.cell? ⟨eb, 0, none⟩ = some (.iface 111 (.pointer (some ⟨b, 0, none⟩))) := (by rw [hE2.blk.cell]; exact hE2.out); have hlow := HE.out.low; have hbase := HE.out.base; have hsz2 : w.heap.size ≤ w2.heap.size := hch.size; have hB2 : Bld B b bs w2 := HE.out.bld.chg HE.out.enc.blk HE.out.ne ((Chg.refl _ w).drew.trans hch); have HW := Lib.hid (bld_write B b bs s w2 hB2 eb 64 HE.out.ne hpos hcl (by omega) (by omega)); have HBL := Lib.hid (show Below B w w2 from ⟨hch.os, hch.tape, hch.output, hch.size, fun k hk => hch.block k (Nat.lt_of_lt_of_le hk hlow) (by omega)⟩); clear hcl hch hE2 hB2 hlow hbase)) | (go_at_call 183; go_must (refine HW.out.mono ?_; rintro e w3 ⟨rfl, hb3, hbl3⟩; have HB3 := Lib.hid hb3; have HBL3 := Lib.hid hbl3; clear hb3 hbl3)))
  all_goals (try go_wp2)
  all_goals go_end0
  all_goals exact ⟨rfl, HB3.out, HBL.out.trans HBL3.out⟩
end Go.Proofs.YthggnkmlnjlggaaGreatDoor
