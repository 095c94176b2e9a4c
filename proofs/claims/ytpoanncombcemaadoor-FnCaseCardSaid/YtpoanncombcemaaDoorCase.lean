/-
  A text's ASCII letters turned, through the thin package's doors; an error for all that is no text.
  Conditions: the value is right.
-/
import Derived.Test.YtpoanncombcemaaDoorErr
import Derived.Test.YtpoanncombcemaaDoorLayMap
import Derived.Test.YtpoanncombcemaaDoorCaseP
import Derived.Shelf.Strings.MapAny
namespace Go.Proofs.YtpoanncombcemaaDoor
open Go.RowKit

theorem Tryd.mapX : Builder.Extra Tryd.prog Tryd.lays230_ren where
  sizeBuilder := by kernel_rfl
  liesBuilder := by kernel_rfl
  t5 := Tryd.underlying5
  a5 := Tryd.isAgg5
  z5 := Tryd.sizeOf5
  v5 := Tryd.zeroValue5
  infoByte := by kernel_rfl
  cellsByte := by kernel_rfl
  sizeByte := by kernel_rfl
  neB5 := by decide

def strV (t : ByteArray) : V := .mk 4 0 t [] [] []
theorem strV_good {t : ByteArray} (hs : t.size ≤ 9223372036854775807) (hv : Lib.validD t.data.toList = true) : Good (strV t) :=
  .mk 4 0 t [] [] [] (by decide) (by decide) (.inr rfl) (.inl rfl) (.inr rfl) (.inr rfl) rfl ⟨by decide, by decide, .inl rfl⟩ ⟨hs, hv⟩ (by simp) (by simp) List.Pairwise.nil (fun _ h => by cases h) (fun _ h => by cases h) (fun _ h => by cases h)
theorem text_toJ {v : V} (hk : v.kind = 4) : toJ v = .str v.text := by
  cases v
  simp only [V.kind] at hk
  subst hk
  simp [toJ, V.text]
theorem good_text {v : V} (hg : Good v) : Lib.validD v.text.data.toList = true := by
  cases hg with
  | mk k hh t l ks' vs' k0 k6 hk tk lk kk kv hh' ht hl hv hks hkt gl gv => exact ht.2
def turned (g : UInt8 → UInt8) (s : ByteArray) : ByteArray := ⟨(s.data.toList.map g).toArray⟩
theorem turned_list (g : UInt8 → UInt8) (s : ByteArray) : (turned g s).data.toList = s.data.toList.map g := by simp [turned]
theorem turned_size (g : UInt8 → UInt8) (s : ByteArray) : (turned g s).size = s.size := by
  show (turned g s).data.size = s.data.size
  simp [turned]


def downI (r : Int) : Int := if 65 ≤ r ∧ r ≤ 90 then r + 32 else r
def downB (b : UInt8) : UInt8 := if 65 ≤ b.toNat ∧ b.toNat ≤ 90 then b + 32 else b
theorem down_low (b : UInt8) (h : b.toNat < 128) : downI b.toNat = (downB b).toNat ∧ (downB b).toNat < 128 := by
  unfold downI downB
  by_cases hc : 65 ≤ b.toNat ∧ b.toNat ≤ 90
  · have e : (b + 32).toNat = b.toNat + 32 := by
      rw [UInt8.toNat_add]; simp; omega
    rw [if_pos hc, if_pos (by omega), e]
    omega
  · rw [if_neg hc, if_neg (by omega)]
    omega
theorem down_high (r : Nat) (h : 128 ≤ r) : downI r = r := by unfold downI; rw [if_neg (by omega)]
theorem down_byte (b : UInt8) (h : 128 ≤ b.toNat) : downB b = b := by unfold downB; rw [if_neg (by omega)]
set_option maxRecDepth 100000 in
theorem down_fn (x : Nat) (hx : x ≤ 1114111) (W : World) : FnGives Tryd.prog 67 #[] #[encR x] (.int .i32 (downI x)) W := by
  show Calls Tryd.prog 67 #[.int .i32 x] W _
  unfold downI
  by_cases h1 : (65 : Int) ≤ (x : Int)
  · by_cases h2 : (x : Int) ≤ 90
    · rw [if_pos ⟨h1, h2⟩]
      go_enter Tryd.func67, Tryd.ntmps67
      go_wp2
      go_ret
      exact ⟨rfl, 0, rfl⟩
    · rw [if_neg (fun h => h2 h.2)]
      go_enter Tryd.func67, Tryd.ntmps67
      go_wp2
      go_ret
      exact ⟨rfl, 0, rfl⟩
  · rw [if_neg (fun h => h1 h.1)]
    go_enter Tryd.func67, Tryd.ntmps67
    go_wp2
    go_ret
    exact ⟨rfl, 0, rfl⟩
set_option maxRecDepth 100000 in
theorem down_map (s : ByteArray) (hs : s.size ≤ 1048576) (hv : Lib.validD s.data.toList = true) (w : World) (hT : Tabs w) : Calls Tryd.prog 66 #[.func (.func 67) #[] #[], .string s] w fun e w' => e = .returned (.string (turned downB s)) ∧ Old w w' := by
  refine (Any.strings_Map_runes Tryd.lays230 Tryd.mapX 67 #[] (enters_of Tryd.func67 (by kernel_rfl) rfl) downI s w (by omega) (fun W x hx _ => down_fn x hx W) (fun x hx => by unfold downI; split <;> omega) hT).mono fun e w' ⟨he, hb⟩ => ⟨?_, Old.of_below hb⟩
  rw [he, mapD_ascii downI downB down_low down_high down_byte _ _ (Nat.le_refl _) hv]
  rfl
set_option maxRecDepth 100000 in
theorem down_go (s : ByteArray) (hs : s.size ≤ 1048576) (hv : Lib.validD s.data.toList = true) (w : World) (hT : Tabs w) : Calls Tryd.prog 54 #[.iface 9 (.string s)] w (GoAns w (.str (turned downB s))) := by
  have H := Lib.hid (down_map s hs hv w hT)
  have t4 := as_str
  clear hT
  go_enter Tryd.func54, Tryd.ntmps54
  go_wp2_with (go_at_call 66; go_must (refine H.out.mono ?_; rintro e w2 ⟨rfl, ho⟩; have HO := Lib.hid ho; clear ho))
  go_ret
  exact ⟨_, rfl, .str _, HO.out⟩
set_option maxRecDepth 100000 in
theorem down_bad {w0 : World} {ok : Nat → Prop} {j : J} {x : Value} (h : KJ w0 ok j x) (hj : ∀ s, j ≠ .str s) (w : World) : Calls Tryd.prog 54 #[x] w (GoErr w) := by
  rcases str_or h with ⟨s, rfl, _⟩ | ⟨_, hno⟩
  · exact absurd rfl (hj s)
  · rcases jshape h with rfl | ⟨xt, xv, rfl⟩
    all_goals
      clear h hj
      go_enter Tryd.func54, Tryd.ntmps54
      go_wp2
      go_ret
      exact ⟨_, rfl, (Old.refl w).alloc _⟩
theorem zdown_go (s : ByteArray) (hs : s.size ≤ 1048576) (hv : Lib.validD s.data.toList = true) (w : World) (hT : Tabs w) : Calls Tryd.prog 41 #[.iface 9 (.string s)] w (GoAns w (.str (turned downB s))) := by
  have H := Lib.hid (down_go s hs hv w hT)
  clear hT
  go_enter Tryd.func41, Tryd.ntmps41
  go_wp2_with (go_at_call 54; go_must (refine H.out.mono ?_; rintro e w2 ⟨y, rfl, hy, ho⟩; have HY := Lib.hid hy; have HO := Lib.hid ho; clear hy ho))
  go_ret
  exact ⟨_, rfl, HY.out, HO.out⟩
theorem zdown_bad {w0 : World} {ok : Nat → Prop} {j : J} {x : Value} (h : KJ w0 ok j x) (hj : ∀ s, j ≠ .str s) (w : World) : Calls Tryd.prog 41 #[x] w (GoErr w) := by
  have H := Lib.hid (down_bad h hj w)
  clear h hj
  go_enter Tryd.func41, Tryd.ntmps41
  go_wp2_with (go_at_call 54; go_must (refine H.out.mono ?_; rintro e w2 ⟨y, rfl, ho⟩; have HO := Lib.hid ho; clear ho))
  go_ret
  exact ⟨_, rfl, HO.out⟩

set_option maxHeartbeats 4000000 in
set_option maxRecDepth 100000 in
theorem down_door (hm : FromsM) {v : V} (hg : Good v) {j : J} (hj : JGood j) (hz : ∀ (W : World) (ok : Nat → Prop) (x : Value), Tabs W → KJ W ok (toJ v) x → Calls Tryd.prog 41 #[x] W (GoAns W j)) (w : World) (hT : Tabs w) (ok : Nat → Prop) (c0 c1 c2 c3 c4 c5 : Value) (hc : KV w ok v [c0, c1, c2, c3, c4, c5]) :
    Calls Tryd.prog 26 #[.agg #[c0, c1, c2, c3, c4, c5]] w (AltAns w (ofJ j)) := by
  have HFR := Lib.hid (fromGo_any hm hj)
  have TA := Lib.hid (toGo_any hg)
  have C := Lib.hid hc
  have HZ := Lib.hid hz
  have HT := Lib.hid hT
  obtain ⟨A1, n1, m1, A2, n2, m2, A3, n3, m3, rfl, rfl, rfl, rfl, rfl, rfl⟩ := shape hc
  generalize v.kind = ka at *
  generalize v.half = fa at *
  generalize v.text = ta at *
  have ho := ((Old.refl w).alloc (.cells #[.int .i64 ka, .int .i64 fa, .string ta, .slice A1 n1 m1, .slice A2 n2 m2, .slice A3 n3 m3] 26)).alloc (.cells #[.int .i64 0, .int .i64 0, .string ⟨#[]⟩, .slice none 0 0, .slice none 0 0, .slice none 0 0, .int .i64 0] 31)
  have HC1 := Lib.hid (TA.out _ ok _ _ _ _ _ _ (C.out.old ho))
  have HO := Lib.hid ho
  clear hc hm ho hz hg hj hT
  have RB := Lib.hid (show Blk ((w.alloc (.cells #[.int .i64 ka, .int .i64 fa, .string ta, .slice A1 n1 m1, .slice A2 n2 m2, .slice A3 n3 m3] 26)).alloc (.cells #[.int .i64 0, .int .i64 0, .string ⟨#[]⟩, .slice none 0 0, .slice none 0 0, .slice none 0 0, .int .i64 0] 31)) (w.heap.size + 1) #[.int .i64 0, .int .i64 0, .string ⟨#[]⟩, .slice none 0 0, .slice none 0 0, .slice none 0 0, .int .i64 0] 31 by
    have hb := Blk.new (w.alloc (.cells #[.int .i64 ka, .int .i64 fa, .string ta, .slice A1 n1 m1, .slice A2 n2 m2, .slice A3 n3 m3] 26)) #[.int .i64 0, .int .i64 0, .string ⟨#[]⟩, .slice none 0 0, .slice none 0 0, .slice none 0 0, .int .i64 0] 31
    rw [show (w.alloc (.cells #[.int .i64 ka, .int .i64 fa, .string ta, .slice A1 n1 m1, .slice A2 n2 m2, .slice A3 n3 m3] 26)).heap.size = w.heap.size + 1 by simp] at hb
    exact hb)
  obtain ⟨ke, hke⟩ : ∃ x, x = (ofJ j).kind := ⟨_, rfl⟩
  obtain ⟨fe, hfe⟩ : ∃ x, x = (ofJ j).half := ⟨_, rfl⟩
  obtain ⟨te, hte⟩ : ∃ x, x = (ofJ j).text := ⟨_, rfl⟩
  have KE := Lib.hid hke
  have FE := Lib.hid hfe
  have TE := Lib.hid hte
  clear hke hfe hte
  go_enter Tryd.func26, Tryd.ntmps26
  go_wp2_with (first
    | (go_at_call 31; go_must (refine HC1.out.mono ?_; rintro e w2 ⟨x, rfl, hx, ho2⟩; have HX := Lib.hid hx; have HO2 := Lib.hid ho2; clear hx ho2))
    | (go_at_call 41; go_must (refine (HZ.out _ _ _ (HT.out.old (HO.out.trans HO2.out)) HX.out).mono ?_; rintro e w4 ⟨y, rfl, hy, ho4⟩; have HY := Lib.hid hy; have HO4 := Lib.hid ho4; clear hy ho4))
    | (go_at_call 32; go_must (refine (result_any HFR.out _ (fun _ => True) _ HY.out).mono ?_; rintro e w5 ⟨e0, e1, e2, e3, e4, e5, rfl, hv, ho5⟩; have HO5 := Lib.hid (HO.out.trans (HO2.out.trans (HO4.out.trans ho5))); have bx := RB.out.old (HO2.out.trans (HO4.out.trans ho5)); have x0 := bx.cell 0; have x1 := bx.cell 1; have x2 := bx.cell 2; have x3 := bx.cell 3; have x4 := bx.cell 4; have x5 := bx.cell 5; have x6 := bx.cell 6; have f0 := bx.frozen 0; have f1 := bx.frozen 1; have f2 := bx.frozen 2; have f3 := bx.frozen 3; have f4 := bx.frozen 4; have f5 := bx.frozen 5; have f6 := bx.frozen 6; have hbl := bx.lt; obtain ⟨E1, q1, r1, E2, q2, r2, E3, q3, r3, rfl, rfl, rfl, rfl, rfl, rfl⟩ := shape hv; rw [← KE.out, ← FE.out, ← TE.out] at hv ⊢; have HV := Lib.hid hv; clear hv ho5 bx)))
  refine bodyPost_ret (v := .agg #[.int .i64 ke, .int .i64 fe, .string te, .slice E1 q1 r1, .slice E2 q2 r2, .slice E3 q3 r3, .int .i64 0]) (by simp [results, Tryd.results26, go_sem, x0, x1, x2, x3, x4, x5, x6]) rfl ?_
  have hc := seven_stores w5 (w.heap.size + 1) (.int .i64 ke) (.int .i64 fe) (.string te) (.slice E1 q1 r1) (.slice E2 q2 r2) (.slice E3 q3 r3) (.int .i64 0)
  have hs := RB.out.lt
  have hsz := (HO2.out.trans HO4.out).size
  have hcl : ∀ b : Nat, w4.heap.size ≤ b → b ≠ w.heap.size + 1 ∧ w.heap.size ≤ b := fun b hb => by omega
  exact ⟨_, _, _, _, _, _, rfl, (HV.out.chg (Chg.mono hc fun b _ hb => (hcl b hb).1)).mono fun b hb _ => (hcl b hb).2, Old.chg_ HO5.out hc fun b hb => Nat.ne_of_lt (by omega)⟩

set_option maxHeartbeats 4000000 in
set_option maxRecDepth 100000 in
theorem down_err {v : V} (hg : Good v) (hz : ∀ (W : World) (ok : Nat → Prop) (x : Value), KJ W ok (toJ v) x → Calls Tryd.prog 41 #[x] W (GoErr W)) (w : World) (ok : Nat → Prop) (c0 c1 c2 c3 c4 c5 : Value) (hc : KV w ok v [c0, c1, c2, c3, c4, c5]) :
    Calls Tryd.prog 26 #[.agg #[c0, c1, c2, c3, c4, c5]] w (ErrAns w) := by
  have TA := Lib.hid (toGo_any hg)
  have C := Lib.hid hc
  have HZ := Lib.hid hz
  obtain ⟨A1, n1, m1, A2, n2, m2, A3, n3, m3, rfl, rfl, rfl, rfl, rfl, rfl⟩ := shape hc
  generalize v.kind = ka at *
  generalize v.half = fa at *
  generalize v.text = ta at *
  have ho := ((Old.refl w).alloc (.cells #[.int .i64 ka, .int .i64 fa, .string ta, .slice A1 n1 m1, .slice A2 n2 m2, .slice A3 n3 m3] 26)).alloc (.cells #[.int .i64 0, .int .i64 0, .string ⟨#[]⟩, .slice none 0 0, .slice none 0 0, .slice none 0 0, .int .i64 0] 31)
  have HC1 := Lib.hid (TA.out _ ok _ _ _ _ _ _ (C.out.old ho))
  have HO := Lib.hid ho
  clear hc ho hz hg
  have RB := Lib.hid (show Blk ((w.alloc (.cells #[.int .i64 ka, .int .i64 fa, .string ta, .slice A1 n1 m1, .slice A2 n2 m2, .slice A3 n3 m3] 26)).alloc (.cells #[.int .i64 0, .int .i64 0, .string ⟨#[]⟩, .slice none 0 0, .slice none 0 0, .slice none 0 0, .int .i64 0] 31)) (w.heap.size + 1) #[.int .i64 0, .int .i64 0, .string ⟨#[]⟩, .slice none 0 0, .slice none 0 0, .slice none 0 0, .int .i64 0] 31 by
    have hb := Blk.new (w.alloc (.cells #[.int .i64 ka, .int .i64 fa, .string ta, .slice A1 n1 m1, .slice A2 n2 m2, .slice A3 n3 m3] 26)) #[.int .i64 0, .int .i64 0, .string ⟨#[]⟩, .slice none 0 0, .slice none 0 0, .slice none 0 0, .int .i64 0] 31
    rw [show (w.alloc (.cells #[.int .i64 ka, .int .i64 fa, .string ta, .slice A1 n1 m1, .slice A2 n2 m2, .slice A3 n3 m3] 26)).heap.size = w.heap.size + 1 by simp] at hb
    exact hb)
  go_enter Tryd.func26, Tryd.ntmps26
  go_wp2_with (first
    | (go_at_call 31; go_must (refine HC1.out.mono ?_; rintro e w2 ⟨x, rfl, hx, ho2⟩; have HX := Lib.hid hx; have HO2 := Lib.hid ho2; clear hx ho2))
    | (go_at_call 41; go_must (refine (HZ.out _ _ _ HX.out).mono ?_; rintro e w4 ⟨y, rfl, ho4⟩; have HO4 := Lib.hid ho4; clear ho4))
    | (go_at_call 32; go_must (refine (result_err _ _).mono ?_; rintro e w5 ⟨rfl, ho5⟩; have HO5 := Lib.hid (HO.out.trans (HO2.out.trans (HO4.out.trans ho5))); have bx := RB.out.old (HO2.out.trans (HO4.out.trans ho5)); have x0 := bx.cell 0; have x1 := bx.cell 1; have x2 := bx.cell 2; have x3 := bx.cell 3; have x4 := bx.cell 4; have x5 := bx.cell 5; have x6 := bx.cell 6; have f0 := bx.frozen 0; have f1 := bx.frozen 1; have f2 := bx.frozen 2; have f3 := bx.frozen 3; have f4 := bx.frozen 4; have f5 := bx.frozen 5; have f6 := bx.frozen 6; have hbl := bx.lt; clear ho5 bx)))
  refine bodyPost_ret (v := .agg #[.int .i64 0, .int .i64 0, .string ⟨#[]⟩, .slice none 0 0, .slice none 0 0, .slice none 0 0, .int .i64 1]) (by simp [results, Tryd.results26, go_sem, x0, x1, x2, x3, x4, x5, x6]) rfl ?_
  have hs := RB.out.lt
  exact ⟨rfl, Old.chg_ HO5.out (seven_stores w5 (w.heap.size + 1) (.int .i64 0) (.int .i64 0) (.string ⟨#[]⟩) (.slice none 0 0) (.slice none 0 0) (.slice none 0 0) (.int .i64 1)) fun b hb => Nat.ne_of_lt (by omega)⟩


theorem down_valid {s : ByteArray} (hv : Lib.validD s.data.toList = true) : Lib.validD (turned downB s).data.toList = true := by
  rw [turned_list]
  exact validD_map downB (fun b h => (down_low b h).2) down_byte _ _ (Nat.le_refl _) hv
theorem down_text {v : V} (hg : Good v) (hk : v.kind = 4) (hs : v.text.size ≤ 4096) (w : World) (hT : Tabs w) (ok : Nat → Prop) (c0 c1 c2 c3 c4 c5 : Value) (hc : KV w ok v [c0, c1, c2, c3, c4, c5]) :
    Calls Tryd.prog 26 #[.agg #[c0, c1, c2, c3, c4, c5]] w (AltAns w (strV (turned downB v.text))) := by
  have hv := good_text hg
  have := down_door mapFromGo_any hg (.str (turned downB v.text) ⟨by rw [turned_size]; omega, down_valid hv⟩) (fun W _ _ hW h => by
    rw [text_toJ hk] at h
    cases h
    exact zdown_go v.text (by omega) hv W hW) w hT ok c0 c1 c2 c3 c4 c5 hc
  simpa [ofJ, strV] using this
theorem down_else {v : V} (hg : Good v) (hk : v.kind ≠ 4) (w : World) (ok : Nat → Prop) (c0 c1 c2 c3 c4 c5 : Value) (hc : KV w ok v [c0, c1, c2, c3, c4, c5]) :
    Calls Tryd.prog 26 #[.agg #[c0, c1, c2, c3, c4, c5]] w (ErrAns w) :=
  down_err hg (fun W _ _ h => zdown_bad h (fun _ e => hk (toJ_str e hg).1) W) w ok c0 c1 c2 c3 c4 c5 hc


def upI (r : Int) : Int := if 97 ≤ r ∧ r ≤ 122 then r - 32 else r
def upB (b : UInt8) : UInt8 := if 97 ≤ b.toNat ∧ b.toNat ≤ 122 then b - 32 else b
theorem up_low (b : UInt8) (h : b.toNat < 128) : upI b.toNat = (upB b).toNat ∧ (upB b).toNat < 128 := by
  unfold upI upB
  by_cases hc : 97 ≤ b.toNat ∧ b.toNat ≤ 122
  · have e : (b - 32).toNat = b.toNat - 32 := by
      rw [UInt8.toNat_sub_of_le _ _ (by rw [UInt8.le_iff_toNat_le]; simp; omega)]; rfl
    rw [if_pos hc, if_pos (by omega), e]
    omega
  · rw [if_neg hc, if_neg (by omega)]
    omega
theorem up_high (r : Nat) (h : 128 ≤ r) : upI r = r := by unfold upI; rw [if_neg (by omega)]
theorem up_byte (b : UInt8) (h : 128 ≤ b.toNat) : upB b = b := by unfold upB; rw [if_neg (by omega)]
set_option maxRecDepth 100000 in
theorem up_fn (x : Nat) (hx : x ≤ 1114111) (W : World) : FnGives Tryd.prog 68 #[] #[encR x] (.int .i32 (upI x)) W := by
  show Calls Tryd.prog 68 #[.int .i32 x] W _
  unfold upI
  by_cases h1 : (97 : Int) ≤ (x : Int)
  · by_cases h2 : (x : Int) ≤ 122
    · rw [if_pos ⟨h1, h2⟩]
      go_enter Tryd.func68, Tryd.ntmps68
      go_wp2
      go_ret
      exact ⟨rfl, 0, rfl⟩
    · rw [if_neg (fun h => h2 h.2)]
      go_enter Tryd.func68, Tryd.ntmps68
      go_wp2
      go_ret
      exact ⟨rfl, 0, rfl⟩
  · rw [if_neg (fun h => h1 h.1)]
    go_enter Tryd.func68, Tryd.ntmps68
    go_wp2
    go_ret
    exact ⟨rfl, 0, rfl⟩
set_option maxRecDepth 100000 in
theorem up_map (s : ByteArray) (hs : s.size ≤ 1048576) (hv : Lib.validD s.data.toList = true) (w : World) (hT : Tabs w) : Calls Tryd.prog 66 #[.func (.func 68) #[] #[], .string s] w fun e w' => e = .returned (.string (turned upB s)) ∧ Old w w' := by
  refine (Any.strings_Map_runes Tryd.lays230 Tryd.mapX 68 #[] (enters_of Tryd.func68 (by kernel_rfl) rfl) upI s w (by omega) (fun W x hx _ => up_fn x hx W) (fun x hx => by unfold upI; split <;> omega) hT).mono fun e w' ⟨he, hb⟩ => ⟨?_, Old.of_below hb⟩
  rw [he, mapD_ascii upI upB up_low up_high up_byte _ _ (Nat.le_refl _) hv]
  rfl
set_option maxRecDepth 100000 in
theorem up_go (s : ByteArray) (hs : s.size ≤ 1048576) (hv : Lib.validD s.data.toList = true) (w : World) (hT : Tabs w) : Calls Tryd.prog 55 #[.iface 9 (.string s)] w (GoAns w (.str (turned upB s))) := by
  have H := Lib.hid (up_map s hs hv w hT)
  have t4 := as_str
  clear hT
  go_enter Tryd.func55, Tryd.ntmps55
  go_wp2_with (go_at_call 66; go_must (refine H.out.mono ?_; rintro e w2 ⟨rfl, ho⟩; have HO := Lib.hid ho; clear ho))
  go_ret
  exact ⟨_, rfl, .str _, HO.out⟩
set_option maxRecDepth 100000 in
theorem up_bad {w0 : World} {ok : Nat → Prop} {j : J} {x : Value} (h : KJ w0 ok j x) (hj : ∀ s, j ≠ .str s) (w : World) : Calls Tryd.prog 55 #[x] w (GoErr w) := by
  rcases str_or h with ⟨s, rfl, _⟩ | ⟨_, hno⟩
  · exact absurd rfl (hj s)
  · rcases jshape h with rfl | ⟨xt, xv, rfl⟩
    all_goals
      clear h hj
      go_enter Tryd.func55, Tryd.ntmps55
      go_wp2
      go_ret
      exact ⟨_, rfl, (Old.refl w).alloc _⟩
theorem zup_go (s : ByteArray) (hs : s.size ≤ 1048576) (hv : Lib.validD s.data.toList = true) (w : World) (hT : Tabs w) : Calls Tryd.prog 42 #[.iface 9 (.string s)] w (GoAns w (.str (turned upB s))) := by
  have H := Lib.hid (up_go s hs hv w hT)
  clear hT
  go_enter Tryd.func42, Tryd.ntmps42
  go_wp2_with (go_at_call 55; go_must (refine H.out.mono ?_; rintro e w2 ⟨y, rfl, hy, ho⟩; have HY := Lib.hid hy; have HO := Lib.hid ho; clear hy ho))
  go_ret
  exact ⟨_, rfl, HY.out, HO.out⟩
theorem zup_bad {w0 : World} {ok : Nat → Prop} {j : J} {x : Value} (h : KJ w0 ok j x) (hj : ∀ s, j ≠ .str s) (w : World) : Calls Tryd.prog 42 #[x] w (GoErr w) := by
  have H := Lib.hid (up_bad h hj w)
  clear h hj
  go_enter Tryd.func42, Tryd.ntmps42
  go_wp2_with (go_at_call 55; go_must (refine H.out.mono ?_; rintro e w2 ⟨y, rfl, ho⟩; have HO := Lib.hid ho; clear ho))
  go_ret
  exact ⟨_, rfl, HO.out⟩

set_option maxHeartbeats 4000000 in
set_option maxRecDepth 100000 in
theorem up_door (hm : FromsM) {v : V} (hg : Good v) {j : J} (hj : JGood j) (hz : ∀ (W : World) (ok : Nat → Prop) (x : Value), Tabs W → KJ W ok (toJ v) x → Calls Tryd.prog 42 #[x] W (GoAns W j)) (w : World) (hT : Tabs w) (ok : Nat → Prop) (c0 c1 c2 c3 c4 c5 : Value) (hc : KV w ok v [c0, c1, c2, c3, c4, c5]) :
    Calls Tryd.prog 27 #[.agg #[c0, c1, c2, c3, c4, c5]] w (AltAns w (ofJ j)) := by
  have HFR := Lib.hid (fromGo_any hm hj)
  have TA := Lib.hid (toGo_any hg)
  have C := Lib.hid hc
  have HZ := Lib.hid hz
  have HT := Lib.hid hT
  obtain ⟨A1, n1, m1, A2, n2, m2, A3, n3, m3, rfl, rfl, rfl, rfl, rfl, rfl⟩ := shape hc
  generalize v.kind = ka at *
  generalize v.half = fa at *
  generalize v.text = ta at *
  have ho := ((Old.refl w).alloc (.cells #[.int .i64 ka, .int .i64 fa, .string ta, .slice A1 n1 m1, .slice A2 n2 m2, .slice A3 n3 m3] 26)).alloc (.cells #[.int .i64 0, .int .i64 0, .string ⟨#[]⟩, .slice none 0 0, .slice none 0 0, .slice none 0 0, .int .i64 0] 31)
  have HC1 := Lib.hid (TA.out _ ok _ _ _ _ _ _ (C.out.old ho))
  have HO := Lib.hid ho
  clear hc hm ho hz hg hj hT
  have RB := Lib.hid (show Blk ((w.alloc (.cells #[.int .i64 ka, .int .i64 fa, .string ta, .slice A1 n1 m1, .slice A2 n2 m2, .slice A3 n3 m3] 26)).alloc (.cells #[.int .i64 0, .int .i64 0, .string ⟨#[]⟩, .slice none 0 0, .slice none 0 0, .slice none 0 0, .int .i64 0] 31)) (w.heap.size + 1) #[.int .i64 0, .int .i64 0, .string ⟨#[]⟩, .slice none 0 0, .slice none 0 0, .slice none 0 0, .int .i64 0] 31 by
    have hb := Blk.new (w.alloc (.cells #[.int .i64 ka, .int .i64 fa, .string ta, .slice A1 n1 m1, .slice A2 n2 m2, .slice A3 n3 m3] 26)) #[.int .i64 0, .int .i64 0, .string ⟨#[]⟩, .slice none 0 0, .slice none 0 0, .slice none 0 0, .int .i64 0] 31
    rw [show (w.alloc (.cells #[.int .i64 ka, .int .i64 fa, .string ta, .slice A1 n1 m1, .slice A2 n2 m2, .slice A3 n3 m3] 26)).heap.size = w.heap.size + 1 by simp] at hb
    exact hb)
  obtain ⟨ke, hke⟩ : ∃ x, x = (ofJ j).kind := ⟨_, rfl⟩
  obtain ⟨fe, hfe⟩ : ∃ x, x = (ofJ j).half := ⟨_, rfl⟩
  obtain ⟨te, hte⟩ : ∃ x, x = (ofJ j).text := ⟨_, rfl⟩
  have KE := Lib.hid hke
  have FE := Lib.hid hfe
  have TE := Lib.hid hte
  clear hke hfe hte
  go_enter Tryd.func27, Tryd.ntmps27
  go_wp2_with (first
    | (go_at_call 31; go_must (refine HC1.out.mono ?_; rintro e w2 ⟨x, rfl, hx, ho2⟩; have HX := Lib.hid hx; have HO2 := Lib.hid ho2; clear hx ho2))
    | (go_at_call 42; go_must (refine (HZ.out _ _ _ (HT.out.old (HO.out.trans HO2.out)) HX.out).mono ?_; rintro e w4 ⟨y, rfl, hy, ho4⟩; have HY := Lib.hid hy; have HO4 := Lib.hid ho4; clear hy ho4))
    | (go_at_call 32; go_must (refine (result_any HFR.out _ (fun _ => True) _ HY.out).mono ?_; rintro e w5 ⟨e0, e1, e2, e3, e4, e5, rfl, hv, ho5⟩; have HO5 := Lib.hid (HO.out.trans (HO2.out.trans (HO4.out.trans ho5))); have bx := RB.out.old (HO2.out.trans (HO4.out.trans ho5)); have x0 := bx.cell 0; have x1 := bx.cell 1; have x2 := bx.cell 2; have x3 := bx.cell 3; have x4 := bx.cell 4; have x5 := bx.cell 5; have x6 := bx.cell 6; have f0 := bx.frozen 0; have f1 := bx.frozen 1; have f2 := bx.frozen 2; have f3 := bx.frozen 3; have f4 := bx.frozen 4; have f5 := bx.frozen 5; have f6 := bx.frozen 6; have hbl := bx.lt; obtain ⟨E1, q1, r1, E2, q2, r2, E3, q3, r3, rfl, rfl, rfl, rfl, rfl, rfl⟩ := shape hv; rw [← KE.out, ← FE.out, ← TE.out] at hv ⊢; have HV := Lib.hid hv; clear hv ho5 bx)))
  refine bodyPost_ret (v := .agg #[.int .i64 ke, .int .i64 fe, .string te, .slice E1 q1 r1, .slice E2 q2 r2, .slice E3 q3 r3, .int .i64 0]) (by simp [results, Tryd.results27, go_sem, x0, x1, x2, x3, x4, x5, x6]) rfl ?_
  have hc := seven_stores w5 (w.heap.size + 1) (.int .i64 ke) (.int .i64 fe) (.string te) (.slice E1 q1 r1) (.slice E2 q2 r2) (.slice E3 q3 r3) (.int .i64 0)
  have hs := RB.out.lt
  have hsz := (HO2.out.trans HO4.out).size
  have hcl : ∀ b : Nat, w4.heap.size ≤ b → b ≠ w.heap.size + 1 ∧ w.heap.size ≤ b := fun b hb => by omega
  exact ⟨_, _, _, _, _, _, rfl, (HV.out.chg (Chg.mono hc fun b _ hb => (hcl b hb).1)).mono fun b hb _ => (hcl b hb).2, Old.chg_ HO5.out hc fun b hb => Nat.ne_of_lt (by omega)⟩

set_option maxHeartbeats 4000000 in
set_option maxRecDepth 100000 in
theorem up_err {v : V} (hg : Good v) (hz : ∀ (W : World) (ok : Nat → Prop) (x : Value), KJ W ok (toJ v) x → Calls Tryd.prog 42 #[x] W (GoErr W)) (w : World) (ok : Nat → Prop) (c0 c1 c2 c3 c4 c5 : Value) (hc : KV w ok v [c0, c1, c2, c3, c4, c5]) :
    Calls Tryd.prog 27 #[.agg #[c0, c1, c2, c3, c4, c5]] w (ErrAns w) := by
  have TA := Lib.hid (toGo_any hg)
  have C := Lib.hid hc
  have HZ := Lib.hid hz
  obtain ⟨A1, n1, m1, A2, n2, m2, A3, n3, m3, rfl, rfl, rfl, rfl, rfl, rfl⟩ := shape hc
  generalize v.kind = ka at *
  generalize v.half = fa at *
  generalize v.text = ta at *
  have ho := ((Old.refl w).alloc (.cells #[.int .i64 ka, .int .i64 fa, .string ta, .slice A1 n1 m1, .slice A2 n2 m2, .slice A3 n3 m3] 26)).alloc (.cells #[.int .i64 0, .int .i64 0, .string ⟨#[]⟩, .slice none 0 0, .slice none 0 0, .slice none 0 0, .int .i64 0] 31)
  have HC1 := Lib.hid (TA.out _ ok _ _ _ _ _ _ (C.out.old ho))
  have HO := Lib.hid ho
  clear hc ho hz hg
  have RB := Lib.hid (show Blk ((w.alloc (.cells #[.int .i64 ka, .int .i64 fa, .string ta, .slice A1 n1 m1, .slice A2 n2 m2, .slice A3 n3 m3] 26)).alloc (.cells #[.int .i64 0, .int .i64 0, .string ⟨#[]⟩, .slice none 0 0, .slice none 0 0, .slice none 0 0, .int .i64 0] 31)) (w.heap.size + 1) #[.int .i64 0, .int .i64 0, .string ⟨#[]⟩, .slice none 0 0, .slice none 0 0, .slice none 0 0, .int .i64 0] 31 by
    have hb := Blk.new (w.alloc (.cells #[.int .i64 ka, .int .i64 fa, .string ta, .slice A1 n1 m1, .slice A2 n2 m2, .slice A3 n3 m3] 26)) #[.int .i64 0, .int .i64 0, .string ⟨#[]⟩, .slice none 0 0, .slice none 0 0, .slice none 0 0, .int .i64 0] 31
    rw [show (w.alloc (.cells #[.int .i64 ka, .int .i64 fa, .string ta, .slice A1 n1 m1, .slice A2 n2 m2, .slice A3 n3 m3] 26)).heap.size = w.heap.size + 1 by simp] at hb
    exact hb)
  go_enter Tryd.func27, Tryd.ntmps27
  go_wp2_with (first
    | (go_at_call 31; go_must (refine HC1.out.mono ?_; rintro e w2 ⟨x, rfl, hx, ho2⟩; have HX := Lib.hid hx; have HO2 := Lib.hid ho2; clear hx ho2))
    | (go_at_call 42; go_must (refine (HZ.out _ _ _ HX.out).mono ?_; rintro e w4 ⟨y, rfl, ho4⟩; have HO4 := Lib.hid ho4; clear ho4))
    | (go_at_call 32; go_must (refine (result_err _ _).mono ?_; rintro e w5 ⟨rfl, ho5⟩; have HO5 := Lib.hid (HO.out.trans (HO2.out.trans (HO4.out.trans ho5))); have bx := RB.out.old (HO2.out.trans (HO4.out.trans ho5)); have x0 := bx.cell 0; have x1 := bx.cell 1; have x2 := bx.cell 2; have x3 := bx.cell 3; have x4 := bx.cell 4; have x5 := bx.cell 5; have x6 := bx.cell 6; have f0 := bx.frozen 0; have f1 := bx.frozen 1; have f2 := bx.frozen 2; have f3 := bx.frozen 3; have f4 := bx.frozen 4; have f5 := bx.frozen 5; have f6 := bx.frozen 6; have hbl := bx.lt; clear ho5 bx)))
  refine bodyPost_ret (v := .agg #[.int .i64 0, .int .i64 0, .string ⟨#[]⟩, .slice none 0 0, .slice none 0 0, .slice none 0 0, .int .i64 1]) (by simp [results, Tryd.results27, go_sem, x0, x1, x2, x3, x4, x5, x6]) rfl ?_
  have hs := RB.out.lt
  exact ⟨rfl, Old.chg_ HO5.out (seven_stores w5 (w.heap.size + 1) (.int .i64 0) (.int .i64 0) (.string ⟨#[]⟩) (.slice none 0 0) (.slice none 0 0) (.slice none 0 0) (.int .i64 1)) fun b hb => Nat.ne_of_lt (by omega)⟩


theorem up_valid {s : ByteArray} (hv : Lib.validD s.data.toList = true) : Lib.validD (turned upB s).data.toList = true := by
  rw [turned_list]
  exact validD_map upB (fun b h => (up_low b h).2) up_byte _ _ (Nat.le_refl _) hv
theorem up_text {v : V} (hg : Good v) (hk : v.kind = 4) (hs : v.text.size ≤ 4096) (w : World) (hT : Tabs w) (ok : Nat → Prop) (c0 c1 c2 c3 c4 c5 : Value) (hc : KV w ok v [c0, c1, c2, c3, c4, c5]) :
    Calls Tryd.prog 27 #[.agg #[c0, c1, c2, c3, c4, c5]] w (AltAns w (strV (turned upB v.text))) := by
  have hv := good_text hg
  have := up_door mapFromGo_any hg (.str (turned upB v.text) ⟨by rw [turned_size]; omega, up_valid hv⟩) (fun W _ _ hW h => by
    rw [text_toJ hk] at h
    cases h
    exact zup_go v.text (by omega) hv W hW) w hT ok c0 c1 c2 c3 c4 c5 hc
  simpa [ofJ, strV] using this
theorem up_else {v : V} (hg : Good v) (hk : v.kind ≠ 4) (w : World) (ok : Nat → Prop) (c0 c1 c2 c3 c4 c5 : Value) (hc : KV w ok v [c0, c1, c2, c3, c4, c5]) :
    Calls Tryd.prog 27 #[.agg #[c0, c1, c2, c3, c4, c5]] w (ErrAns w) :=
  up_err hg (fun W _ _ h => zup_bad h (fun _ e => hk (toJ_str e hg).1) W) w ok c0 c1 c2 c3 c4 c5 hc

end Go.Proofs.YtpoanncombcemaaDoor
