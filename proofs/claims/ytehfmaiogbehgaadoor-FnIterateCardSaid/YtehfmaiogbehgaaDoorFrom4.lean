/-
  A value of the program as the package hands it back: all kinds.
  Conditions: the value is right.
-/
import Derived.Test.YtehfmaiogbehgaaDoorKeys
namespace Go.Proofs.YtehfmaiogbehgaaDoor
open Go.RowKit

def FromGom (w : World) (ks : List ByteArray) (vs : List J) (e : Ending) (w' : World) : Prop :=
  ∃ c4 c5, e = .returned (.tuple #[.agg #[.int .i64 6, .int .i64 0, .string ⟨#[]⟩, .slice none 0 0, c4, c5], .bool true]) ∧ SliceV w' (fun b => w.heap.size ≤ b) c4 1 ks.length (fun i => [.string (ks.getD i nilS)]) ∧ KVs w' (fun b => w.heap.size ≤ b) (ofJs vs) c5 ∧ Old w w'
def FromsM : Prop := ∀ (ks : List ByteArray) (vs : List J), vs.length ≤ 1048576 → ks.length = vs.length → Rising ks → (∀ s ∈ ks, s.size ≤ 9223372036854775807) → (∀ x ∈ vs, Froms x) → ∀ (w : World) (ok : Nat → Prop) (b : Nat) (xs : List Value),
  MapV w b ks xs → xs.length = vs.length → (∀ i (hi : i < vs.length), KJ w ok vs[i] (xs.getD i .nilIface)) → Calls Tryd.prog 26 #[.map (some b)] w (FromGom w ks vs)

theorem KV.leaf (w : World) (ok : Nat → Prop) (k h : Int) (t : ByteArray) : KV w ok (.mk k h t [] [] []) [.int .i64 k, .int .i64 h, .string t, .slice none 0 0, .slice none 0 0, .slice none 0 0] :=
  .mk k h t [] [] [] _ _ _ (fun _ => []) (fun _ => []) (SliceV.nil _ _ _ _) (fun i hi => absurd hi (by simp)) (SliceV.nil _ _ _ _) (SliceV.nil _ _ _ _) (fun i hi => absurd hi (by simp))

theorem run_twice {h : Int} (h0 : h ≠ 0) (hb : -9007199254740992 < h ∧ h < 9007199254740992) (w : World) : (binOp .mul 69 (.float .f64 4611686018427387904) (.float .f64 (fhalf h))).run Tryd.prog w = .ok (.float .f64 (near h)) w :=
  run_float_arith w .mul 69 .f64 _ _ _ (flt_mul h0 hb)

/-- Six cells of one block are written anew. -/
theorem six_stores (w : World) (g : Nat) (u0 u1 u2 u3 u4 u5 : Value) : Chg (fun b => b ≠ g) w ((((((w.setCell ⟨g, 0, none⟩ u0).setCell ⟨g, 1, none⟩ u1).setCell ⟨g, 2, none⟩ u2).setCell ⟨g, 3, none⟩ u3).setCell ⟨g, 4, none⟩ u4).setCell ⟨g, 5, none⟩ u5) :=
  ((((((Chg.refl (fun b => b ≠ g) w).setCell _ _ (fun _ h => h rfl)).setCell _ _ (fun _ h => h rfl)).setCell _ _ (fun _ h => h rfl)).setCell _ _ (fun _ h => h rfl)).setCell _ _ (fun _ h => h rfl)).setCell _ _ (fun _ h => h rfl)
theorem as_bool (v : Value) (w : World) : (Instr.typeAssert (.iface 4 v) 20 4 true).run Tryd.prog w = .ok (.tuple #[v, .bool true]) w := by kernel_rfl
theorem as_int_bool (v : Value) (w : World) : (Instr.typeAssert (.iface 3 v) 20 4 true).run Tryd.prog w = .ok (.tuple #[.bool false, .bool false]) w := by kernel_rfl
theorem as_int (v : Value) (w : World) : (Instr.typeAssert (.iface 3 v) 20 3 true).run Tryd.prog w = .ok (.tuple #[v, .bool true]) w := by kernel_rfl
theorem as_flt_bool (v : Value) (w : World) : (Instr.typeAssert (.iface 69 v) 20 4 true).run Tryd.prog w = .ok (.tuple #[.bool false, .bool false]) w := by kernel_rfl
theorem as_flt_int (v : Value) (w : World) : (Instr.typeAssert (.iface 69 v) 20 3 true).run Tryd.prog w = .ok (.tuple #[.int .i64 0, .bool false]) w := by kernel_rfl
theorem as_flt (v : Value) (w : World) : (Instr.typeAssert (.iface 69 v) 20 69 true).run Tryd.prog w = .ok (.tuple #[v, .bool true]) w := by kernel_rfl
theorem as_str_bool (v : Value) (w : World) : (Instr.typeAssert (.iface 9 v) 20 4 true).run Tryd.prog w = .ok (.tuple #[.bool false, .bool false]) w := by kernel_rfl
theorem as_str_int (v : Value) (w : World) : (Instr.typeAssert (.iface 9 v) 20 3 true).run Tryd.prog w = .ok (.tuple #[.int .i64 0, .bool false]) w := by kernel_rfl
theorem as_str_flt (v : Value) (w : World) : (Instr.typeAssert (.iface 9 v) 20 69 true).run Tryd.prog w = .ok (.tuple #[.float .f64 0, .bool false]) w := by kernel_rfl
theorem as_str (v : Value) (w : World) : (Instr.typeAssert (.iface 9 v) 20 9 true).run Tryd.prog w = .ok (.tuple #[v, .bool true]) w := by kernel_rfl
theorem as_arr_bool (v : Value) (w : World) : (Instr.typeAssert (.iface 34 v) 20 4 true).run Tryd.prog w = .ok (.tuple #[.bool false, .bool false]) w := by kernel_rfl
theorem as_arr_int (v : Value) (w : World) : (Instr.typeAssert (.iface 34 v) 20 3 true).run Tryd.prog w = .ok (.tuple #[.int .i64 0, .bool false]) w := by kernel_rfl
theorem as_arr_flt (v : Value) (w : World) : (Instr.typeAssert (.iface 34 v) 20 69 true).run Tryd.prog w = .ok (.tuple #[.float .f64 0, .bool false]) w := by kernel_rfl
theorem as_arr_str (v : Value) (w : World) : (Instr.typeAssert (.iface 34 v) 20 9 true).run Tryd.prog w = .ok (.tuple #[.string ⟨#[]⟩, .bool false]) w := by kernel_rfl
theorem as_arr (v : Value) (w : World) : (Instr.typeAssert (.iface 34 v) 20 34 true).run Tryd.prog w = .ok (.tuple #[v, .bool true]) w := by kernel_rfl
theorem as_obj_bool (v : Value) (w : World) : (Instr.typeAssert (.iface 70 v) 20 4 true).run Tryd.prog w = .ok (.tuple #[.bool false, .bool false]) w := by kernel_rfl
theorem as_obj_int (v : Value) (w : World) : (Instr.typeAssert (.iface 70 v) 20 3 true).run Tryd.prog w = .ok (.tuple #[.int .i64 0, .bool false]) w := by kernel_rfl
theorem as_obj_flt (v : Value) (w : World) : (Instr.typeAssert (.iface 70 v) 20 69 true).run Tryd.prog w = .ok (.tuple #[.float .f64 0, .bool false]) w := by kernel_rfl
theorem as_obj_str (v : Value) (w : World) : (Instr.typeAssert (.iface 70 v) 20 9 true).run Tryd.prog w = .ok (.tuple #[.string ⟨#[]⟩, .bool false]) w := by kernel_rfl
theorem as_obj_arr (v : Value) (w : World) : (Instr.typeAssert (.iface 70 v) 20 34 true).run Tryd.prog w = .ok (.tuple #[.slice none 0 0, .bool false]) w := by kernel_rfl
theorem as_obj (v : Value) (w : World) : (Instr.typeAssert (.iface 70 v) 20 70 true).run Tryd.prog w = .ok (.tuple #[v, .bool true]) w := by kernel_rfl

set_option maxHeartbeats 4000000 in
set_option maxRecDepth 100000 in
theorem fromGo_any (hmap : FromsM) {j : J} (hg : JGood j) : Froms j := by
  have HM := Lib.hid hmap
  clear hmap
  induction hg with
  | nil =>
    intro w ok x hx
    cases hx
    go_enter Tryd.func15, Tryd.ntmps15
    go_wp2
    refine bodyPost_ret (v := .tuple #[.agg #[.int .i64 0, .int .i64 0, .string ⟨#[]⟩, .slice none 0 0, .slice none 0 0, .slice none 0 0], .bool true]) (by simp [results, Tryd.results15, go_sem]) rfl ?_
    exact ⟨_, _, _, _, _, _, rfl, KV.leaf _ _ 0 0 nilS, (Old.refl w).alloc _⟩
  | bool b =>
    intro w ok x hx
    cases hx
    have t0 := as_bool
    cases b
    · go_enter Tryd.func15, Tryd.ntmps15
      go_wp2
      refine bodyPost_ret (v := .tuple #[.agg #[.int .i64 1, .int .i64 0, .string ⟨#[]⟩, .slice none 0 0, .slice none 0 0, .slice none 0 0], .bool true]) (by simp [results, Tryd.results15, go_sem]) rfl ?_
      exact ⟨_, _, _, _, _, _, rfl, KV.leaf _ _ 1 0 nilS, (Old.refl w).alloc _⟩
    · go_enter Tryd.func15, Tryd.ntmps15
      go_wp2
      refine bodyPost_ret (v := .tuple #[.agg #[.int .i64 2, .int .i64 0, .string ⟨#[]⟩, .slice none 0 0, .slice none 0 0, .slice none 0 0], .bool true]) (by simp [results, Tryd.results15, go_sem]) rfl ?_
      exact ⟨_, _, _, _, _, _, rfl, KV.leaf _ _ 2 0 nilS, (Old.refl w).alloc _⟩
  | int n h =>
    intro w ok x hx
    cases hx
    obtain ⟨hn1, hn2⟩ := h
    have t0 := as_int_bool
    have t1 := as_int
    go_enter Tryd.func15, Tryd.ntmps15
    go_wp2
    refine bodyPost_ret (v := .tuple #[.agg #[.int .i64 3, .int .i64 (2 * n), .string ⟨#[]⟩, .slice none 0 0, .slice none 0 0, .slice none 0 0], .bool true]) (by simp [results, Tryd.results15, go_sem]; omega) rfl ?_
    exact ⟨_, _, _, _, _, _, rfl, KV.leaf _ _ 3 (2 * n) nilS, (Old.refl w).alloc _⟩
  | flt h ho hb =>
    intro w ok x hx
    cases hx
    have h0 : h ≠ 0 := by omega
    have hm := run_twice h0 hb
    have H0 := Lib.hid h0
    have HB := Lib.hid hb
    clear ho hb h0
    have t0 := as_flt_bool
    have t1 := as_flt_int
    have t2 := as_flt
    go_enter Tryd.func15, Tryd.ntmps15
    go_wp2_with (go_at_call 24; go_must (refine (half_any H0.out HB.out _).mono ?_; rintro e w2 ⟨rfl, ho⟩; have HO := Lib.hid (((Old.refl w).alloc _).trans ho); have bx := (Blk.new w _ _).old ho; have x0 := bx.cell 0; have x1 := bx.cell 1; have x2 := bx.cell 2; have x3 := bx.cell 3; have x4 := bx.cell 4; have x5 := bx.cell 5; have f0 := bx.frozen 0; have f1 := bx.frozen 1; have f2 := bx.frozen 2; have f3 := bx.frozen 3; have f4 := bx.frozen 4; have f5 := bx.frozen 5; have hbl := bx.lt; clear bx ho; simp only [numV]))
    refine bodyPost_ret (v := .tuple #[.agg #[.int .i64 3, .int .i64 h, .string nilS, .slice none 0 0, .slice none 0 0, .slice none 0 0], .bool true]) (by simp [results, Tryd.results15, go_sem, x0, x1, x2, x3, x4, x5]) rfl ?_
    exact ⟨_, _, _, _, _, _, rfl, KV.leaf _ _ 3 h nilS, Old.chg_ HO.out (six_stores _ _ _ _ _ _ _ _) fun b hb => Nat.ne_of_lt hb⟩
  | str s h =>
    intro w ok x hx
    cases hx
    clear h
    have t0 := as_str_bool
    have t1 := as_str_int
    have t2 := as_str_flt
    have t3 := as_str
    go_enter Tryd.func15, Tryd.ntmps15
    go_wp2
    refine bodyPost_ret (v := .tuple #[.agg #[.int .i64 4, .int .i64 0, .string s, .slice none 0 0, .slice none 0 0, .slice none 0 0], .bool true]) (by simp [results, Tryd.results15, go_sem]) rfl ?_
    exact ⟨_, _, _, _, _, _, rfl, KV.leaf _ _ 4 0 s, (Old.refl w).alloc _⟩
  | arr l hl g ih =>
    intro w ok x hx
    cases hx with
    | arr _ v X hs hr =>
    have HK := Lib.hid (show KJs (w.alloc (.cells #[.int .i64 0, .int .i64 0, .string ⟨#[]⟩, .slice none 0 0, .slice none 0 0, .slice none 0 0] 27)) ok l v from ⟨X, hs.old ((Old.refl w).alloc _), fun i hi => (hr i hi).old ((Old.refl w).alloc _)⟩)
    have IH := Lib.hid ih
    have HL := Lib.hid hl
    obtain ⟨A, c, rfl, _⟩ := hs.len
    clear hs hr ih g hl
    have t0 := as_arr_bool
    have t1 := as_arr_int
    have t2 := as_arr_flt
    have t3 := as_arr_str
    have t4 := as_arr
    go_enter Tryd.func15, Tryd.ntmps15
    go_wp2_with (go_at_call 25; go_must (refine (listFromGo_any l HL.out IH.out _ ok _ HK.out).mono ?_; rintro e w2 ⟨c3, rfl, hk, ho⟩; have HO := Lib.hid (((Old.refl w).alloc _).trans ho); have HV := Lib.hid hk; have bx := (Blk.new w _ _).old ho; have x0 := bx.cell 0; have x1 := bx.cell 1; have x2 := bx.cell 2; have x3 := bx.cell 3; have x4 := bx.cell 4; have x5 := bx.cell 5; have f0 := bx.frozen 0; have f1 := bx.frozen 1; have f2 := bx.frozen 2; have f3 := bx.frozen 3; have f4 := bx.frozen 4; have f5 := bx.frozen 5; have hbl := bx.lt; obtain ⟨C, cs, cr⟩ := hk; obtain ⟨A3, n3, rfl, _⟩ := cs.len; clear bx ho cs cr))
    refine bodyPost_ret (v := .tuple #[.agg #[.int .i64 5, .int .i64 0, .string ⟨#[]⟩, .slice A3 (ofJs l).length n3, .slice none 0 0, .slice none 0 0], .bool true]) (by simp [results, Tryd.results15, go_sem, x0, x1, x2, x3, x4, x5]) rfl ?_
    have hc := six_stores w2 w.heap.size (.int .i64 5) (.int .i64 0) (.string ⟨#[]⟩) (.slice A3 (ofJs l).length n3) (.slice none 0 0) (.slice none 0 0)
    have hm : ∀ b : Nat, (w.alloc (.cells #[.int .i64 0, .int .i64 0, .string ⟨#[]⟩, .slice none 0 0, .slice none 0 0, .slice none 0 0] 27)).heap.size ≤ b → b ≠ w.heap.size ∧ w.heap.size ≤ b := fun b hb => by simp at hb; omega
    obtain ⟨C, cs, cr⟩ := HV.out
    exact ⟨_, _, _, _, _, _, rfl, .mk 5 0 nilS (ofJs l) [] [] _ _ _ C (fun _ => []) ((cs.chg (Chg.mono hc fun b _ hb => (hm b hb).1)).mono fun b hb _ => (hm b hb).2) (fun i hi => ((cr i hi).chg (Chg.mono hc fun b _ hb => (hm b hb).1)).mono fun b hb _ => (hm b hb).2) (SliceV.nil _ _ _ _) (SliceV.nil _ _ _ _) (fun i hi => absurd hi (by simp)), Old.chg_ HO.out hc fun b hb => Nat.ne_of_lt hb⟩
  | obj ks vs kv hv hks hkt g ih =>
    intro w ok x hx
    cases hx with
    | obj _ _ b xs hb hmv hxl hr =>
    have HC := Lib.hid (HM.out ks vs hv kv hks (fun s hs => (hkt s hs).1) ih (w.alloc (.cells #[.int .i64 0, .int .i64 0, .string ⟨#[]⟩, .slice none 0 0, .slice none 0 0, .slice none 0 0] 27)) ok b xs (hmv.step (((Old.refl w).alloc _).block b hmv.lt trivial)) hxl fun i hi => (hr i hi).old ((Old.refl w).alloc _))
    have KV_ := Lib.hid kv
    clear hmv hxl hr ih g hv hks hkt kv hb
    have t0 := as_obj_bool
    have t1 := as_obj_int
    have t2 := as_obj_flt
    have t3 := as_obj_str
    have t4 := as_obj_arr
    have t5 := as_obj
    go_enter Tryd.func15, Tryd.ntmps15
    go_wp2_with (go_at_call 26; go_must (refine HC.out.mono ?_; rintro e w2 ⟨c4, c5, rfl, hk4, hk5, ho⟩; have HO := Lib.hid (((Old.refl w).alloc _).trans ho); have HV4 := Lib.hid hk4; have HV5 := Lib.hid hk5; have bx := (Blk.new w _ _).old ho; have x0 := bx.cell 0; have x1 := bx.cell 1; have x2 := bx.cell 2; have x3 := bx.cell 3; have x4 := bx.cell 4; have x5 := bx.cell 5; have f0 := bx.frozen 0; have f1 := bx.frozen 1; have f2 := bx.frozen 2; have f3 := bx.frozen 3; have f4 := bx.frozen 4; have f5 := bx.frozen 5; have hbl := bx.lt; obtain ⟨C, cs, cr⟩ := hk5; obtain ⟨A5, n5, rfl, _⟩ := cs.len; obtain ⟨A4, n4, rfl, _⟩ := hk4.len; clear bx ho cs cr hk4))
    refine bodyPost_ret (v := .tuple #[.agg #[.int .i64 6, .int .i64 0, .string ⟨#[]⟩, .slice none 0 0, .slice A4 ks.length n4, .slice A5 (ofJs vs).length n5], .bool true]) (by simp [results, Tryd.results15, go_sem, x0, x1, x2, x3, x4, x5]) rfl ?_
    have hc := six_stores w2 w.heap.size (.int .i64 6) (.int .i64 0) (.string ⟨#[]⟩) (.slice none 0 0) (.slice A4 ks.length n4) (.slice A5 (ofJs vs).length n5)
    have hm : ∀ b : Nat, (w.alloc (.cells #[.int .i64 0, .int .i64 0, .string ⟨#[]⟩, .slice none 0 0, .slice none 0 0, .slice none 0 0] 27)).heap.size ≤ b → b ≠ w.heap.size ∧ w.heap.size ≤ b := fun b hb => by simp at hb; omega
    obtain ⟨C, cs, cr⟩ := HV5.out
    exact ⟨_, _, _, _, _, _, rfl, .mk 6 0 nilS [] ks (ofJs vs) _ _ _ (fun _ => []) C (SliceV.nil _ _ _ _) (fun i hi => absurd hi (by simp)) ((HV4.out.chg (Chg.mono hc fun b _ hb => (hm b hb).1)).mono fun b hb _ => (hm b hb).2) ((cs.chg (Chg.mono hc fun b _ hb => (hm b hb).1)).mono fun b hb _ => (hm b hb).2) (fun i hi => ((cr i hi).chg (Chg.mono hc fun b _ hb => (hm b hb).1)).mono fun b hb _ => (hm b hb).2), Old.chg_ HO.out hc fun b hb => Nat.ne_of_lt hb⟩
end Go.Proofs.YtehfmaiogbehgaaDoor
