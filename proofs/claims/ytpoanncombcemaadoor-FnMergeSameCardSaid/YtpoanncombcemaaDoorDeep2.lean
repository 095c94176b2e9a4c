/-
  Two maps are merged: the walk.
  Conditions: each is the same map, or one without keys.
-/
import Derived.Test.YtpoanncombcemaaDoorDeep
import Derived.Test.YtpoanncombcemaaDoorFit3
import Derived.Test.YtpoanncombcemaaDoorLayCopy
import Derived.Deep.DeepMust
namespace Go.Proofs.YtpoanncombcemaaDoor
open Go.RowKit Go.Maps

theorem copy_any (bd bs nd ns : Nat) (Dd Ds : DataW Value) (w : World) (hd : w.ownsMap Tryd.prog 9 held bd nd Dd) (hs : w.ownsMap Tryd.prog 9 held bs ns Ds) (hne : bd ≠ bs) (hroom : nd + Maps.size Ds ≤ maxLen) :
    Calls Tryd.prog 60 #[.map (some bd), .map (some bs)] w fun e w' => e = .returned (.tuple #[]) ∧ w'.ownsMap Tryd.prog 9 held bd (nd + Maps.size Ds) (Lib.mergeD Dd Ds) ∧ w'.ownsMap Tryd.prog 9 held bs ns Ds ∧ w.grownBy w' (some bd) :=
  AnyX.maps_Copy Tryd.copy (Maps.string_keyed Tryd.underlying9) held bd bs nd ns Dd Ds w hd hs hne hroom

/-- What a merge gives. -/
def MergeAns (ok : Nat → Prop) (w : World) (j : J) (e : Ending) (w' : World) : Prop := ∃ y, e = .returned y ∧ KJ w' (fun b => ok b ∨ w.heap.size ≤ b) j y ∧ Old w w'
def DM (ks : List ByteArray) (vs : List J) : Prop := ∀ (w : World) (ok : Nat → Prop) (bl br : Nat) (Dl Dr : DataW Value) (fl fr : Bool), Half ok w ks vs bl Dl fl → Half ok w ks vs br Dr fr → (fl || fr) = true →
  Calls Tryd.prog 50 #[.map (some bl), .map (some br)] w (MergeAns ok w (.obj ks vs))
def Deeps (v : V) : Prop := Small v → v.kind = 6 → DM v.keys (toJs v.vals)

theorem Old.but {a b : World} (h : Old a b) (row : Option Nat) : a.grownBy b row := ⟨h.os, h.tape, h.output, h.size, fun i hi _ => h.block i hi trivial⟩
/-- The loop. -/
def Round (w : World) (ok : Nat → Prop) (ks : List ByteArray) (vs : List J) (br rr nr : Nat) (Dl Dr : DataW Value) (wr : World) : Prop :=
  ∃ (left : Lit → Bool) (cnt : Nat) (Dout : DataW Value), wr.ranges Tryd.prog 9 held br rr nr Dr left cnt ∧ cnt ≤ Maps.size Dr ∧ wr.ownsMap Tryd.prog 9 held w.heap.size (0 + Maps.size Dl + (Maps.size Dr - cnt)) Dout ∧
    Filling (fun b => (ok b ∨ w.heap.size ≤ b) ∧ b ≠ w.heap.size ∧ b ≠ rr) wr ks vs Dl Dr Dout left ∧ Old w wr

theorem round_end {w wr w2 w3 w5 : World} {ok : Nat → Prop} {ks : List ByteArray} {vs : List J} {br rr nr cnt cnt1 i : Nat} {Dl Dr Dout : DataW Value} {left : Lit → Bool} {v : Value} (hks : Rising ks)
    (hFi : Filling (fun b => (ok b ∨ w.heap.size ≤ b) ∧ b ≠ w.heap.size ∧ b ≠ rr) wr ks vs Dl Dr Dout left) (hm : IsMap Dout) (hi : i < ks.length) (hr : Maps.has Dr (keyL ks i) = true)
    (hmv : ∀ j x, KJ wr (fun b => (ok b ∨ w.heap.size ≤ b) ∧ b ≠ w.heap.size ∧ b ≠ rr) j x → KJ w2 (fun b => (ok b ∨ w.heap.size ≤ b) ∧ b ≠ w.heap.size ∧ b ≠ rr) j x)
    (hrg : wr.ranges Tryd.prog 9 held br rr nr Dr left cnt) (hrg1 : w2.ranges Tryd.prog 9 held br rr nr Dr (fun z => left z && !z.sameKey (keyL ks i)) cnt1) (hlt : cnt1 < cnt) (hcs : cnt ≤ Maps.size Dr) (ho : Old w2 w3) (hold2 : Old w w2)
    (hv : KJ w3 (fun b => (ok b ∨ w.heap.size ≤ b) ∧ b ≠ w.heap.size ∧ b ≠ rr) (jth vs i) v) (hout5 : w5.ownsMap Tryd.prog 9 held w.heap.size (0 + Maps.size Dl + (Maps.size Dr - cnt) + 1) (Dout.put (keyL ks i) (.held v))) (hg5 : w3.grownBy w5 (some w.heap.size)) (hbr : br < w.heap.size) (hrr : w.heap.size < rr) :
    Round w ok ks vs br rr nr Dl Dr w5 ∧ w5.rangeLeft br rr < wr.rangeLeft br rr := by
  have hrg5 := (hrg1.kept (ho.but none) (by simp) (by simp)).kept hg5 (fun e => by have := Option.some.inj e; omega) (fun e => by have := Option.some.inj e; omega)
  have hst : ∀ j x, KJ w3 (fun b => (ok b ∨ w.heap.size ≤ b) ∧ b ≠ w.heap.size ∧ b ≠ rr) j x → KJ w5 (fun b => (ok b ∨ w.heap.size ≤ b) ∧ b ≠ w.heap.size ∧ b ≠ rr) j x := fun j x hj => hj.step fun k hk hl => hg5.block k hl (fun e => hk.2.1 (Option.some.inj e))
  refine ⟨⟨_, cnt1, _, hrg5, by omega, hout5.mono (by omega), hFi.step hks hm i hi hr v (hst _ _ hv) (fun j x hj => hst _ _ ((hmv j x hj).old ho)), (hold2.trans ho).grown hg5 (fun k hk => by cases hk; exact Nat.le_refl _)⟩, ?_⟩
  rw [hrg5.left_eq, hrg.left_eq]
  exact hlt

set_option maxHeartbeats 4000000 in
set_option maxRecDepth 100000 in
theorem deep_any {v : V} (hg : Good v) : Deeps v := by
  induction hg with
  | mk k h t l ks vs k0 k6 hk tk lk kk kv hh ht hl hv hks hkt gl gv ihl ihv =>
    intro hsm hk6
    simp only [V.kind] at hk6
    subst hk6
    cases hsm with
    | mk _ _ _ _ _ _ sl sk sv tl tv =>
    intro w ok bl br Dl Dr fl fr HL0 HR0 hf
    simp only [V.keys, V.vals] at HL0 HR0 ⊢
    have HL := Lib.hid HL0
    have HR := Lib.hid HR0
    have HF := Lib.hid hf
    obtain ⟨nl, ol, hsl, hml⟩ := HL0.own
    obtain ⟨nr, or_, hsr, hmr⟩ := HR0.own
    have HKS := Lib.hid hks
    have GV := Lib.hid gv
    have IH := Lib.hid ihv
    have TV := Lib.hid tv
    have HKV := Lib.hid kv
    have OL := Lib.hid ol
    have OR := Lib.hid or_
    have hml' := Lib.hid hml
    have len1 := fun ty => ol.len Tryd.underlying58 ty
    have len2 := fun ty => or_.len Tryd.underlying58 ty
    have hmk := run_makeMapN (P := Tryd.prog) 58 9 20 Tryd.underlying58 (Maps.size Dl + Maps.size Dr)
    rw [Int.natCast_add] at hmk
    have KS := Maps.string_keyed Tryd.underlying9
    have hltl := ol.lt
    have hltr := or_.lt
    clear HL0 HR0 hf gl gv ihl ihv hks kv ol or_ hml hh ht hl hv hkt tl tv lk tk hk kk sl sk sv k0 k6
    go_enter Tryd.func50, Tryd.ntmps50
    go_wp2_with (first
      | (go_at_call 60; go_must (refine (copy_any w.heap.size bl 0 nl (.map []) Dl _ (World.ownsMap_made w _ _ _) (OL.out.alloc _) (Nat.ne_of_gt hltl) (by unfold maxLen; omega)).mono ?_; rintro e w1 ⟨rfl, hm1, _, hg1⟩; rw [merge_empty OL.out hml'.out] at hm1; have HM1 := Lib.hid hm1; have HO1 := Lib.hid (((Old.refl w).alloc _).grown hg1 (fun k hk => by cases hk; exact Nat.le_refl _)); clear hm1 hg1))
      | (at_range; refine wpList_range_own _ rfl _ 58 rfl 9 20 KS Tryd.underlying58 held br nr Dr rfl (OR.out.kept (HO1.out.but none) (by simp)) ?_; intro w0 hrg0 hg0 hs0))
    go_frame
    have hws : w.heap.size < w1.heap.size := HM1.out.lt
    have HS1 := Lib.hid hws
    have HF0 : ∀ k, ok k → k < w.heap.size → (ok k ∨ w.heap.size ≤ k) ∧ k ≠ w.heap.size ∧ k ≠ w1.heap.size := fun k ho hk => ⟨.inl ho, by omega, by omega⟩
    have HFA := Lib.hid HF0
    clear HF0
    clear len1 len2 hmk
    go_loopw [25] (fun _ wr => Round w ok ks (toJs vs) br w1.heap.size nr Dl Dr wr) (fun _ wr => wr.rangeLeft br w1.heap.size)
    case atStart =>
      exact ⟨_, _, Dl, hrg0, Nat.le_refl _, by have := HM1.out.kept hg0 (by simp); simpa using this, Filling.start HKS.out (HL.out.mono fun k hk ho => HFA.out k ho hk) (HO1.out.grown hg0 (fun k hk => by cases hk)), HO1.out.grown hg0 (fun k hk => by cases hk)⟩
    case round =>
      obtain ⟨left, cnt, Dout, hrg, hcs, hout, hFi, hold⟩ := hrel
      have HRG := Lib.hid hrg
      have HOUT := Lib.hid hout
      have HFI := Lib.hid hFi
      have HOLD := Lib.hid hold
      clear hrg hout hFi hold hrg0 hg0
      go_wp2_with (at_next; refine wpList_next_ranges _ rfl _ rfl 9 KS held id id (fun key _ _ => ⟨key, rfl⟩) (fun v _ _ => ⟨v, rfl⟩) br w1.heap.size nr _ _ _ rfl HRG.out ?_ ?_)
      · intro hc0 hl0
        subst hc0
        go_wp2
        go_ret
        have hall : ∀ k, (Maps.has Dl k || Maps.has Dr k) = true ↔ ∃ i, i < ks.length ∧ k = keyL ks i := fun k => by
          rw [Bool.or_eq_true, HL.out.has k, HR.out.has k]
          have hf := HF.out
          rw [Bool.or_eq_true] at hf
          constructor
          · rintro (⟨_, h⟩ | ⟨_, h⟩) <;> exact h
          · intro h
            rcases hf with hf | hf
            · exact .inl ⟨hf, h⟩
            · exact .inr ⟨hf, h⟩
        obtain ⟨xs, hx1, hx2, hx3⟩ := HFI.out.done HKS.out (HOUT.out.canon KS) hl0 hall
        have hout := HOUT.out
        rw [hx2] at hout
        have hlen : (toJs vs).length = ks.length := by rw [toJs_map, List.length_map, HKV.out]
        refine ⟨_, rfl, .obj ks (toJs vs) w.heap.size xs (.inr (Nat.le_refl _)) ⟨_, hout, by omega⟩ (by rw [hlen, hx1]) (fun i hi => ?_), HOLD.out⟩
        rw [jth_eq]
        exact (hx3 i (by rw [← hlen]; exact hi)).mono fun b hb _ => hb.1
      · intro x c kl yd yp w2 cnt1 hkey hlx hv hat hrg1 hlt hg1 hs1 hen
        have hr := has_true_of_atKey hat
        obtain ⟨hfr, i, hi, rfl⟩ := (HR.out.has _).1 hr
        obtain ⟨s, rfl, hs⟩ := key_inv hkey
        obtain ⟨cv, hat', hkc⟩ := HR.out.at_ HKS.out i hi hfr
        obtain ⟨rfl, rfl⟩ : yd = .held c ∧ yp = [] := by
          have : some ((DataW.held c : DataW Value), ([] : List MemPlace)) = some (yd, yp) := hv
          simp only [Option.some.injEq, Prod.mk.injEq] at this
          exact ⟨this.1.symm, this.2.symm⟩
        obtain rfl : cv = c := by
          have := (hat' .nil).symm.trans (hat .nil)
          simpa using this
        have hg1' : ∀ k, some w1.heap.size = some k → w.heap.size ≤ k := fun k hk => by cases hk; exact Nat.le_of_lt HS1.out
        have hold2 : Old w w2 := HOLD.out.grown hg1 hg1'
        have hne1 : some w.heap.size ≠ some w1.heap.size := fun e => by have := Option.some.inj e; have := HS1.out; omega
        have hout2 := HOUT.out.kept hg1 hne1
        have hkc2 : KJ w2 (fun b => (ok b ∨ w.heap.size ≤ b) ∧ b ≠ w.heap.size ∧ b ≠ w1.heap.size) (jth (toJs vs) i) cv := (hkc.mono fun k ho hk => HFA.out k ho hk).old hold2
        have hmv : ∀ j x, KJ wr (fun b => (ok b ∨ w.heap.size ≤ b) ∧ b ≠ w.heap.size ∧ b ≠ w1.heap.size) j x → KJ w2 (fun b => (ok b ∨ w.heap.size ≤ b) ∧ b ≠ w.heap.size ∧ b ≠ w1.heap.size) j x := fun j x hj => hj.step fun k ho hk => hg1.block k hk (fun e => ho.2.2 (Option.some.inj e))
        obtain ⟨v', ps, hlk, hv'⟩ := hout2.look_ok KS Tryd.underlying58 (z := .nilIface) (by kernel_rfl) (zd := .held .nilIface) (zp := []) rfl hkey
        have HKEY := Lib.hid hkey
        have HOUT2 := Lib.hid hout2
        have HOLD2 := Lib.hid hold2
        have HRG1 := Lib.hid hrg1
        have HKC := Lib.hid hkc2
        have HMV := Lib.hid hmv
        have HR1 := Lib.hid hr
        have HNE := Lib.hid hne1
        clear hkey hv hat hrg1 hg1 hg1' hold2 hne1 hout2 hkc hat' hmv hr hs
        by_cases hh : Maps.has Dout (keyL ks i) = true
        · rw [hh] at hlk
          obtain ⟨u, hu1, hu2⟩ := HFI.out.each i hi hh
          rw [hu1] at hv'
          obtain ⟨rfl, _⟩ : v' = u ∧ ps = [] := by simpa [held] using hv'
          have hu3 := HMV.out _ _ hu2
          clear hu1 hu2 hv'
          rcases map_or hu3 with ⟨_, hno⟩ | ⟨ks1, vs1, b1, xs1, e1, rfl, hm1, hx1, hb1, hr1⟩
          · clear hu3 hkc2
            go_wp2_with (at_mapUpdate; refine wpList_mapUpdate_own _ rfl _ _ _ 58 rfl 9 20 KS Tryd.underlying58 held w.heap.size _ _ rfl HOUT2.out (by unfold maxLen; omega) _ _ _ rfl rfl HKEY.out _ [] rfl ?_; intro w5 hout5 hg5; go_frame)
            exact round_end HKS.out HFI.out HOUT.out.isMap hi HR1.out HMV.out HRG.out HRG1.out hlt hcs (Old.refl w2) HOLD2.out HKC.out hout5 hg5 hltr HS1.out
          · rcases map_or hkc2 with ⟨hne, _⟩ | ⟨ks2, vs2, b2, xs2, e2, rfl, hm2, hx2, hb2, hr2⟩
            · exact absurd e1 (hne _ _)
            · obtain ⟨rfl, rfl⟩ : ks1 = ks2 ∧ vs1 = vs2 := by
                have := e1.symm.trans e2
                simpa using this
              have hiv : i < vs.length := by rw [← HKV.out]; exact hi
              rw [jth_map vs i hiv] at e1
              have hmem : nth vs i ∈ vs := by rw [← nth_eq vs i hiv]; exact List.getElem_mem hiv
              have hgi := GV.out _ hmem
              obtain ⟨hk6, hke, hve⟩ := toJ_obj e1 hgi
              have hdm := IH.out _ hmem (TV.out _ hmem) hk6
              rw [← hke, ← hve] at hdm
              have hsi := TV.out _ hmem
              obtain ⟨hkl, hk4⟩ : ks1.length = vs1.length ∧ ks1.length ≤ 400 := by
                rw [hke, hve, toJs_map, List.length_map]
                generalize nth vs i = q at hgi hsi
                cases hgi
                cases hsi
                exact ⟨by assumption, by assumption⟩
              have H1 : Half (fun b => (ok b ∨ w.heap.size ≤ b) ∧ b ≠ w.heap.size ∧ b ≠ w1.heap.size) w2 ks1 vs1 b1 (mapD ks1 xs1) true := ⟨xs1, .inl ⟨⟨rfl, rfl, by omega, hk4, fun j hj => by rw [← jth_eq vs1 j (by omega)]; exact hr1 j (by omega)⟩, hm1⟩⟩
              have H2 : Half (fun b => (ok b ∨ w.heap.size ≤ b) ∧ b ≠ w.heap.size ∧ b ≠ w1.heap.size) w2 ks1 vs1 b2 (mapD ks1 xs2) true := ⟨xs2, .inl ⟨⟨rfl, rfl, by omega, hk4, fun j hj => by rw [← jth_eq vs1 j (by omega)]; exact hr2 j (by omega)⟩, hm2⟩⟩
              have HC := Lib.hid (hdm w2 _ b1 b2 _ _ true true H1 H2 rfl)
              have E2 := Lib.hid e2
              have ta1 := as_map
              clear hkc2 e1 e2 hdm H1 H2 hgi hsi hr1 hr2 hm1 hm2 hke hve hkl hk4 hk6 hx1 hx2 hb1 hb2
              go_wp2_with (first
                | (go_at_call 50; go_must (refine HC.out.mono ?_; rintro e w3 ⟨y, rfl, hy, ho3⟩; have HY := Lib.hid hy; have HO3 := Lib.hid ho3; have HOUT3 := Lib.hid (HOUT2.out.kept (ho3.but none) (by simp)); clear hy ho3))
                | (at_mapUpdate; refine wpList_mapUpdate_own _ rfl _ _ _ 58 rfl 9 20 KS Tryd.underlying58 held w.heap.size _ _ rfl HOUT3.out (by unfold maxLen; omega) _ _ _ rfl rfl HKEY.out _ [] rfl ?_; intro w5 hout5 hg5; go_frame))
              have hyy := HY.out.mono (ok' := fun b => (ok b ∨ w.heap.size ≤ b) ∧ b ≠ w.heap.size ∧ b ≠ w1.heap.size) fun k hk _ => by
                rcases hk with hk | hk
                · exact hk
                · have h1 := HOLD2.out.size
                  have h2 := HRG1.out.lt
                  have h3 := HOUT2.out.lt
                  omega
              rw [← E2.out] at hyy
              exact round_end HKS.out HFI.out HOUT.out.isMap hi HR1.out HMV.out HRG.out HRG1.out hlt hcs HO3.out HOLD2.out hyy hout5 hg5 hltr HS1.out
        · have hh' : Maps.has Dout (keyL ks i) = false := by simpa using hh
          rw [hh'] at hlk
          clear hkc2 hv' hh hh'
          go_wp2_with (at_mapUpdate; refine wpList_mapUpdate_own _ rfl _ _ _ 58 rfl 9 20 KS Tryd.underlying58 held w.heap.size _ _ rfl HOUT2.out (by unfold maxLen; omega) _ _ _ rfl rfl HKEY.out _ [] rfl ?_; intro w5 hout5 hg5; go_frame)
          exact round_end HKS.out HFI.out HOUT.out.isMap hi HR1.out HMV.out HRG.out HRG1.out hlt hcs (Old.refl w2) HOLD2.out HKC.out hout5 hg5 hltr HS1.out
end Go.Proofs.YtpoanncombcemaaDoor
