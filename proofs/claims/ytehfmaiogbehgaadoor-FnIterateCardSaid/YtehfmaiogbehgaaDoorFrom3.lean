/-
  A list of the program as the package hands it back: the walk.
  Conditions: the values are right.
-/
import Derived.Test.YtehfmaiogbehgaaDoorFrom2
namespace Go.Proofs.YtehfmaiogbehgaaDoor
open Go.RowKit

/-- Element k of a slice of values of the program. -/
theorem oneAt {w : World} {ok : Nat → Prop} {A : Option Addr} {m c : Nat} {l : List J} (h : KJs w ok l (.slice A m c)) (k : Nat) (hk : k < l.length) :
    ∃ b o x, A = some ⟨b, o, none⟩ ∧ b < w.heap.size ∧ w.cell? ⟨b, o + k, none⟩ = some x ∧ KJ w ok (jth l k) x := by
  obtain ⟨X, s, r⟩ := h
  obtain ⟨b, o, hA, hb, _, hc⟩ := s.at_ k hk
  have h0 := hc 0 (by omega)
  have hr := r k hk
  rw [jth_eq] at hr
  exact ⟨b, o, X k, hA, hb, by simpa using h0, hr⟩
theorem news_six {W : World} {B : Nat} (hB : W.heap.size = B) (cs : Array Value) (t : TypeId) : ∀ j u, cs.toList[j]? = some u → (W.alloc (.cells cs t)).cell? ((⟨B, 0, none⟩ : Addr).add j) = some u := by
  subst hB
  exact news_blk (Blk.new W cs t)
theorem one_six {w : World} {ok : Nat → Prop} {v : V} {cs : List Value} (h : KV w ok v cs) : ∀ u ∈ cs, u.oneCell' = true := by
  cases h with
  | mk k h t l ks vs v1 v2 v3 C1 C3 s1 r1 s2 s3 r3 =>
    obtain ⟨A1, m1, rfl, _⟩ := s1.len
    obtain ⟨A2, m2, rfl, _⟩ := s2.len
    obtain ⟨A3, m3, rfl, _⟩ := s3.len
    intro u hu
    simp only [List.mem_cons, List.mem_nil_iff, or_false] at hu
    rcases hu with rfl | rfl | rfl | rfl | rfl | rfl <;> rfl

theorem Came.mid {w wr w2 w3 : World} {l : List J} {k : Nat} {v : Value} {xs : List Value} {o1 o2 : Obj} (h : Came w wr l k v xs) (ho : Old wr w2) (hgrow : ((w2.alloc o1).alloc o2).grownBy w3 v.ownBlock) :
    Blk w3 (w.heap.size + 1) #[.int .i64 5, .int .i64 0, .string ⟨#[]⟩, v, .slice none 0 0, .slice none 0 0] 27 := by
  refine (h.out.old (ho.trans (((Old.refl w2).alloc _).alloc _))).chg (Chg.grown (ok := fun b => some b ≠ v.ownBlock) (Chg.refl _ _) hgrow fun _ _ ho => ho) fun e => ?_
  have := own_lt h.row e.symm
  omega

set_option maxHeartbeats 4000000 in
set_option maxRecDepth 100000 in
theorem listFromGo_any (l : List J) (hl : l.length ≤ 1048576) (ih : ∀ x ∈ l, Froms x) (w : World) (ok : Nat → Prop) (v1 : Value) (h : KJs w ok l v1) :
    Calls Tryd.prog 25 #[v1] w (FromGos w l) := by
  have H := Lib.hid h
  have IH := Lib.hid ih
  obtain ⟨X, s, _⟩ := h
  obtain ⟨A, c, rfl, _⟩ := s.len
  clear s ih
  obtain ⟨iv, hi, hz0, hz1, hz2⟩ := info_parts Tryd.infoVal
  have HI := Lib.hid hi
  have HZ0 := Lib.hid hz0
  have HZ1 := Lib.hid hz1
  have HZ2 := Lib.hid hz2
  clear hi hz0 hz1 hz2
  go_enter Tryd.func25, Tryd.ntmps25
  go_wp2
  go_loopg [12] l.length (fun gk s12 wr => ∃ k v xs, k + gk = l.length ∧ s12 = .int .i64 k ∧ Came w wr l k v xs)
  case atStart =>
    refine ⟨0, .slice none 0 0, [], by simp, rfl, ?_, ?_, ⟨rfl, .inl ⟨rfl, rfl⟩⟩, fun j hj => absurd hj (by omega), ((Old.refl w).alloc _).alloc _⟩
    · exact (Blk.new w _ _).alloc _
    · have hb := Blk.new (w.alloc (.cells #[.int .i64 0, .int .i64 0, .string ⟨#[]⟩, .slice none 0 0, .slice none 0 0, .slice none 0 0] 27)) #[.int .i64 5, .int .i64 0, .string ⟨#[]⟩, .slice none 0 0, .slice none 0 0, .slice none 0 0] 27
      rw [show (w.alloc (.cells #[.int .i64 0, .int .i64 0, .string ⟨#[]⟩, .slice none 0 0, .slice none 0 0, .slice none 0 0] 27)).heap.size = w.heap.size + 1 by simp] at hb
      exact hb
  case round =>
    obtain ⟨k, v, xs, hk, rfl, R⟩ := hrel
    have HK := Lib.hid hk
    have R0 := Lib.hid R
    obtain ⟨An, nn, rfl⟩ := own_len R.row
    by_cases hlt : k < l.length
    · obtain ⟨b, o, x, rfl, hb, e0, hx⟩ := oneAt (w := wr) (ok := ok) (by obtain ⟨X, s, r⟩ := H.out; exact ⟨X, s.old R.old, fun i hi => (r i hi).old R.old⟩) k hlt
      have HX := Lib.hid hx
      obtain ⟨w5, hw5⟩ : ∃ n, n = wr.heap.size := ⟨_, rfl⟩
      rcases jshape hx with rfl | ⟨xt, xv, rfl⟩
      all_goals
        clear hx R hw5
        go_wp2_with (first
          | (go_at_call 15; go_must (refine (IH.out _ (List.getElem_mem hlt) _ ok _ (by rw [jth_eq]; exact HX.out)).mono ?_; rintro e w2 ⟨d0, d1, d2, d3, d4, d5, rfl, hv, ho⟩; rw [jth_eq] at hv; have HO := Lib.hid ho; have hob := R0.out.out.old ho; have y3 : w2.cell? ⟨w.heap.size + 1, 3, none⟩ = some (.slice An k nn) := hob.cell 3; have hs1 : w.heap.size + 1 < w2.heap.size := hob.lt; obtain ⟨B1, q1, p1, B2, q2, p2, B3, q3, p3, rfl, rfl, rfl, rfl, rfl, rfl⟩ := shape hv; obtain ⟨kd, hkd⟩ : ∃ x, x = (ofJ (jth l k)).kind := ⟨_, rfl⟩; obtain ⟨hf, hhf⟩ : ∃ x, x = (ofJ (jth l k)).half := ⟨_, rfl⟩; obtain ⟨tx, htx⟩ : ∃ x, x = (ofJ (jth l k)).text := ⟨_, rfl⟩; rw [← hkd, ← hhf, ← htx] at hv ⊢; have HV := Lib.hid hv; clear hv hkd hhf htx ho hob))
          | (at_builtin; refine wpList_append_lies _ rfl _ _ _ rfl (w.heap.size + 2) 27 iv _ 6 104 Tryd.underlying22 HI.out HZ0.out HZ1.out HZ2.out rfl (by decide) (.slice An k nn) k xs rfl (own_old R0.out.row (HO.out.trans (((Old.refl _).alloc _).alloc _))) ⟨w2.heap.size + 1, 0, none⟩ 1 1 [.int .i64 kd, .int .i64 hf, .string tx, .slice B1 q1 p1, .slice B2 q2 p2, .slice B3 q3 p3] rfl rfl (news_six (by simp) _ _) (one_six HV.out) (by decide) (by unfold maxLen; omega) (by omega) (by simp; omega) (w2.heap.size + 2) (by simp) ?_; intro g cap w3 hown hgrow hat hlt3; have HP := Lib.hid (R0.out.put HO.out HV.out hown hgrow hat); have hm := R0.out.mid HO.out hgrow; have z3 : w3.cell? ⟨w.heap.size + 1, 3, none⟩ = some (.slice An k nn) := hm.cell 3; have f3 : w3.frozen? ⟨w.heap.size + 1, 3, none⟩ = false := hm.frozen 3; have hs3 : w.heap.size + 1 < w3.heap.size := hm.lt; clear hown hgrow hat hm))
        go_roundg (gk - 1)
        case measure => omega
        case rel => exact ⟨k + 1, _, _, by omega, by go_num, HP.out⟩
    · obtain rfl : k = l.length := by omega
      have r0 : wr.cell? ⟨w.heap.size, 0, none⟩ = _ := R.res.cell 0
      have s0 : wr.frozen? ⟨w.heap.size, 0, none⟩ = false := R.res.frozen 0
      have r1 : wr.cell? ⟨w.heap.size, 1, none⟩ = _ := R.res.cell 1
      have s1 : wr.frozen? ⟨w.heap.size, 1, none⟩ = false := R.res.frozen 1
      have r2 : wr.cell? ⟨w.heap.size, 2, none⟩ = _ := R.res.cell 2
      have s2 : wr.frozen? ⟨w.heap.size, 2, none⟩ = false := R.res.frozen 2
      have r3 : wr.cell? ⟨w.heap.size, 3, none⟩ = _ := R.res.cell 3
      have s3 : wr.frozen? ⟨w.heap.size, 3, none⟩ = false := R.res.frozen 3
      have r4 : wr.cell? ⟨w.heap.size, 4, none⟩ = _ := R.res.cell 4
      have s4 : wr.frozen? ⟨w.heap.size, 4, none⟩ = false := R.res.frozen 4
      have r5 : wr.cell? ⟨w.heap.size, 5, none⟩ = _ := R.res.cell 5
      have s5 : wr.frozen? ⟨w.heap.size, 5, none⟩ = false := R.res.frozen 5
      have hlr := R.res.lt
      have y0 : wr.cell? ⟨w.heap.size + 1, 0, none⟩ = _ := R.out.cell 0
      have y1 : wr.cell? ⟨w.heap.size + 1, 1, none⟩ = _ := R.out.cell 1
      have y2 : wr.cell? ⟨w.heap.size + 1, 2, none⟩ = _ := R.out.cell 2
      have y3 : wr.cell? ⟨w.heap.size + 1, 3, none⟩ = _ := R.out.cell 3
      have y4 : wr.cell? ⟨w.heap.size + 1, 4, none⟩ = _ := R.out.cell 4
      have y5 : wr.cell? ⟨w.heap.size + 1, 5, none⟩ = _ := R.out.cell 5
      go_wp2
      refine bodyPost_ret (v := .tuple #[.agg #[.int .i64 5, .int .i64 0, .string ⟨#[]⟩, .slice An l.length nn, .slice none 0 0, .slice none 0 0], .bool true]) (by simp [results, Tryd.results25, go_sem, r0, r1, r2, r3, r4, r5]) rfl ?_
      have hc := (((((((Chg.refl (fun b => b ≠ w.heap.size) wr).setCell ⟨w.heap.size, 0, none⟩ (.int .i64 5) (fun _ h => h rfl)).setCell ⟨w.heap.size, 1, none⟩ (.int .i64 0) (fun _ h => h rfl)).setCell ⟨w.heap.size, 2, none⟩ (.string ⟨#[]⟩) (fun _ h => h rfl)).setCell ⟨w.heap.size, 3, none⟩ (.slice An l.length nn) (fun _ h => h rfl)).setCell ⟨w.heap.size, 4, none⟩ (.slice none 0 0) (fun _ h => h rfl)).setCell ⟨w.heap.size, 5, none⟩ (.slice none 0 0) (fun _ h => h rfl))
      obtain ⟨C, cs, cr⟩ := R.done
      have hm : ∀ b : Nat, w.heap.size + 2 ≤ b → b ≠ w.heap.size := fun b hb => by omega
      have hl2 : ∀ b : Nat, w.heap.size + 2 ≤ b → w.heap.size ≤ b := fun b hb => by omega
      refine ⟨_, rfl, ⟨C, (cs.chg (Chg.mono hc fun b _ hb => hm b hb)).mono fun b hb _ => hl2 b hb, fun i hi => ((cr i hi).chg (Chg.mono hc fun b _ hb => hm b hb)).mono fun b hb _ => hl2 b hb⟩, ?_⟩
      exact Old.chg_ R.old hc fun b hb => Nat.ne_of_lt hb
end Go.Proofs.YtehfmaiogbehgaaDoor
