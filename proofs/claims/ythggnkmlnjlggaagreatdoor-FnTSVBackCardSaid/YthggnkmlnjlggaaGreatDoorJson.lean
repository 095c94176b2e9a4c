/-
  Plain values as JSON text: the walk of jsonMarshal.
  Conditions: none.
-/
import Derived.Test.YthggnkmlnjlggaaGreatDoorEnc
import Derived.Test.YthggnkmlnjlggaaGreatDoorLayBuild
namespace Go.Proofs.YthggnkmlnjlggaaGreatDoor
open Go.RowKit Ieee
attribute [local go_sem ↓] Go.wp_at_zero Go.wp_at_succ

theorem Tryz.bldExtra : Builder.Extra Tryz.prog Tryz.lays169_ren where
  sizeBuilder := by kernel_rfl
  liesBuilder := by kernel_rfl
  t5 := Tryz.underlying5
  a5 := Tryz.isAgg5
  z5 := Tryz.sizeOf5
  v5 := Tryz.zeroValue5
  infoByte := by kernel_rfl
  cellsByte := by kernel_rfl
  sizeByte := by kernel_rfl
  neB5 := by decide
theorem bld_text (B b : Nat) (s : ByteArray) (w : World) (h : Bld B b (Lib.strCells s) w) (hBw : B ≤ w.heap.size) : Calls Tryz.prog 69 #[.pointer (some ⟨b, 0, none⟩)] w fun e w' => e = .returned (.string s) ∧ Below B w w' := by
  have := Any.Builder_String_any Tryz.lays169 Tryz.bldExtra B b s.data.toList w h hBw
  exact this
theorem Bld.old {w w' : World} {B b : Nat} {bs : List Value} (h : Bld B b bs w) (hc : Old w w') : Bld B b bs w' := by
  have key : ∀ p, Lib.BuilderAt 113 5 B b p bs w → Lib.BuilderAt 113 5 B b p bs w' := by
    rintro p ⟨h1, v, h2, h3, h4⟩
    have hlt : b < w.heap.size := (Array.getElem?_eq_some_iff.1 h2).1
    exact ⟨h1, v, (hc.block b hlt trivial).trans h2, own_old h3 hc, h4⟩
  rcases h with h | h
  · exact .inl (key _ h)
  · exact .inr (key _ h)
theorem enc_new (W : World) (v : Value) : EncAt (W.alloc (.cells (Tryz.zeroCells118.setIfInBounds 0 v) 118)) W.heap.size v (Tryz.zeroCells118.setIfInBounds 0 v) :=
  ⟨Blk.new W _ _, by rw [Array.size_setIfInBounds]; kernel_rfl, by kernel_rfl⟩
set_option maxHeartbeats 2000000 in
set_option maxRecDepth 100000 in
theorem json_any (w : World) (x : Value) (s : ByteArray)
    (hx : ∀ (W : World) (B b eb : Nat) (cs : Array Value), EncB W B b eb [] cs → Calls Tryz.prog 68 #[.pointer (some ⟨eb, 0, none⟩), x] W (EncAns W B b [] s)) :
    Calls Tryz.prog 60 #[x] w fun e w' => e = .returned (.string s) ∧ Old w w' := by
  obtain ⟨wb, hwb⟩ : ∃ wb, wb = w.alloc (.cells #[.pointer none, .slice none 0 0] 113) := ⟨_, rfl⟩
  have HX := Lib.hid hx
  have hsz : wb.heap.size = w.heap.size + 1 := by rw [hwb]; simp
  have HBF := Lib.hid (show Bld w.heap.size w.heap.size [] wb by rw [hwb]; exact Lib.fresh_isBuilder _ _ w)
  have HO := Lib.hid (show Old w wb by rw [hwb]; exact (Old.refl w).alloc _)
  clear hx
  go_enter Tryz.func60, Tryz.ntmps60
  go_upto_region 2 with (fail)
  rw [← hwb]
  clear hwb
  have hE : EncB (wb.alloc (.cells (Tryz.zeroCells118.setIfInBounds 0 (.iface 111 (.pointer (some ⟨w.heap.size, 0, none⟩)))) 118)) w.heap.size w.heap.size (w.heap.size + 1) [] (Tryz.zeroCells118.setIfInBounds 0 (.iface 111 (.pointer (some ⟨w.heap.size, 0, none⟩)))) :=
    ⟨HBF.out.old ((Old.refl wb).alloc _), by have := enc_new wb (.iface 111 (.pointer (some ⟨w.heap.size, 0, none⟩))); rw [hsz] at this; exact this, by omega, by omega, by simp; omega⟩
  have HC := Lib.hid (HX.out _ _ _ _ _ hE)
  clear hE
  go_upto_region 3 with (go_at_call 68; go_must (refine HC.out.mono ?_; rintro e w2 ⟨rfl, hb2, hbl2⟩; have HB2 := Lib.hid hb2; have HBL := Lib.hid hbl2; clear hb2 hbl2))
  have hbl : Below w.heap.size w w2 := ((HO.out.alloc _).below).trans HBL.out
  have hst := bld_text w.heap.size w.heap.size s w2 (by simpa using HB2.out) hbl.size
  have HST := Lib.hid hst
  have HBL2 := Lib.hid hbl
  clear hst hbl
  go_wp2_with (go_at_call 69; go_must (refine HST.out.mono ?_; rintro e w3 ⟨rfl, hbl3⟩; have HBL3 := Lib.hid hbl3; clear hbl3))
  go_ret
  exact ⟨rfl, Old.of_below (HBL2.out.trans HBL3.out)⟩
/-- What a plain value is, as JSON. -/
theorem json_nil (w : World) : Calls Tryz.prog 60 #[.nilIface] w fun e w' => e = .returned (.string nullS) ∧ Old w w' :=
  json_any w _ _ fun W B b eb cs h => encode_nil W B b eb [] cs h (by simp)
theorem json_bool (c : Bool) (w : World) : Calls Tryz.prog 60 #[.iface 4 (.bool c)] w fun e w' => e = .returned (.string (if c then trueS else falseS)) ∧ Old w w' :=
  json_any w _ _ fun W B b eb cs h => by
    cases c
    · exact encode_false W B b eb [] cs h (by simp)
    · exact encode_true W B b eb [] cs h (by simp)
theorem json_int (n : Int) (hb : -9007199254740992 ≤ n ∧ n ≤ 9007199254740992) (w : World) : Calls Tryz.prog 60 #[.iface 3 (.int .i64 n)] w fun e w' => e = .returned (.string (istr n)) ∧ Old w w' :=
  json_any w _ _ fun W B b eb cs h => encode_int W B b eb [] cs h (by simp) n hb
theorem json_float (h : Int) (ho : h % 2 = 1) (hb : -9007199254740992 < h ∧ h < 9007199254740992) (w : World) : Calls Tryz.prog 60 #[.iface 58 (.float .f64 (fhalf h))] w fun e w' => e = .returned (.string (fstr h)) ∧ Old w w' :=
  json_any w _ _ fun W B b eb cs hE => encode_float W B b eb [] cs hE (by simp) h ho hb
end Go.Proofs.YthggnkmlnjlggaaGreatDoor
