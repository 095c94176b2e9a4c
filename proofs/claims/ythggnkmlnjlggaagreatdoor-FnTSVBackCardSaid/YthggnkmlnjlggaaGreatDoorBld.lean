/-
  strings.Builder at this program: the walks of copyCheck, WriteString, Write.
  Conditions: none.
-/
import Derived.Test.YthggnkmlnjlggaaGreatDoorAppend
import Derived.Shelf.Strings.Builder1
namespace Go.Proofs.YthggnkmlnjlggaaGreatDoor
open Go.RowKit
attribute [local go_sem ↓] Go.wp_at_zero Go.wp_at_succ

theorem Tryz.sizeBld : (Tryz.prog.info? 113).map (·.size) = some 2 := by kernel_rfl
theorem Tryz.liesBld : liesAt Tryz.prog Tryz.prog.depth 113 (2 / Tryz.prog.cellsOf 113) 0 113 1 = true := by kernel_rfl
set_option maxHeartbeats 1000000 in
set_option maxRecDepth 100000 in
theorem bld_used (b : Nat) (w : World) (h0 : w.cell? ⟨b, 0, none⟩ = some (.pointer (some ⟨b, 0, none⟩))) :
    Calls Tryz.prog 86 #[.pointer (some ⟨b, 0, none⟩)] w fun e w' => e = .returned (.tuple #[]) ∧ w' = w := by
  obtain ⟨j, hj, hjs⟩ := Option.map_eq_some_iff.1 Tryz.sizeBld
  go_enter Tryz.func86, Tryz.ntmps86
  go_wp2
  rw [Lib.run_neq_ptr_same w ⟨b, 0, none⟩ Tryz.underlying111 hj]
  simp only [Result.andThen]
  rw [Oper.upon_value]
  go_wp2
  go_end0
  exact ⟨rfl, rfl⟩
set_option maxHeartbeats 1000000 in
set_option maxRecDepth 100000 in
theorem bld_fresh (b : Nat) (w : World) (h0 : w.cell? ⟨b, 0, none⟩ = some (.pointer none)) (hsh : w.shape? b = some (113, 2)) (hfz : w.frozen? ⟨b, 0, none⟩ = false) :
    Calls Tryz.prog 86 #[.pointer (some ⟨b, 0, none⟩)] w fun e w' => e = .returned (.tuple #[]) ∧ w' = w.setCell ⟨b, 0, none⟩ (.pointer (some ⟨b, 0, none⟩)) := by
  obtain ⟨j, hj, hjs⟩ := Option.map_eq_some_iff.1 Tryz.sizeBld
  go_enter Tryz.func86, Tryz.ntmps86
  go_wp2
  rw [Lib.run_to_unsafe w ⟨b, 0, none⟩ Tryz.underlying111 Tryz.underlying163 hj (by rw [hjs]; decide) hsh (Nat.zero_lt_succ 1)]
  simp only [Result.andThen]
  rw [Oper.upon_value]
  go_wp2
  rw [run_callFunc_extern Tryz.func106 (by kernel_rfl) (by kernel_rfl) (by kernel_rfl) (e := Extern.AbiNoEscape.same) (by kernel_rfl)]
  rw [Lib.run_noEscape]
  simp only [Result.andThen]
  rw [Oper.upon_value]
  go_wp2
  rw [Lib.run_from_unsafe w ⟨b, 0, none⟩ Tryz.underlying163 Tryz.underlying111 hj hsh Tryz.liesBld]
  simp only [Result.andThen]
  rw [Oper.upon_value]
  go_wp2
  go_end0
  exact ⟨rfl, rfl⟩
/-- A builder that holds the bytes bs. -/
def Bld (B b : Nat) (bs : List Value) (w : World) : Prop := Lib.IsBuilder 113 5 B b bs w
theorem bld_check (B b : Nat) (bs : List Value) (w : World) (h : Bld B b bs w) :
    Calls Tryz.prog 86 #[.pointer (some ⟨b, 0, none⟩)] w fun e w' => e = .returned (.tuple #[]) ∧ (Lib.BuilderAt 113 5 B b (.pointer (some ⟨b, 0, none⟩)) bs w' ∧ Below B w w' ∧ Chg (fun k => k ≠ b) w w') := by
  rcases h with h | h
  · refine (bld_fresh b w h.cell0 h.shape h.frozen0).mono ?_
    rintro e w' ⟨rfl, rfl⟩
    exact ⟨rfl, h.used _, (Below.refl B w).setCell (p := ⟨b, 0, none⟩) h.1 _, (Chg.refl _ w).setCell _ _ fun _ h => h rfl⟩
  · refine (bld_used b w h.cell0).mono ?_
    rintro e w' ⟨rfl, rfl⟩
    exact ⟨rfl, h, Below.refl B _, Chg.refl _ _⟩
theorem bld_end {B b : Nat} {v v' : Value} {bs bs' : List Value} {w w1 w2 : World} (hb1 : Below B w w1) (hBw : B ≤ w.heap.size) (hB : B ≤ b) (hown : w1.ownsRow B 5 1 v bs.length bs) (hb2 : w2.heap[b]? = some (.cells #[.pointer (some ⟨b, 0, none⟩), v] 113 (0, 0)))
    (hown' : w2.ownsRow B 5 1 v' bs'.length bs') (hgrow : w1.grownBy w2 v.ownBlock) : Bld B b bs' (w2.setCell ⟨b, 1, none⟩ v') ∧ Below B w (w2.setCell ⟨b, 1, none⟩ v') :=
  ⟨.inr (Lib.BuilderAt.put hB hb2 hown' (by decide)), (hb1.grown hgrow (by have := hb1.size; omega) (fun k hk => (hown.lt k hk).1)).setCell (p := ⟨b, 1, none⟩) hB _⟩
set_option maxHeartbeats 2000000 in
set_option maxRecDepth 100000 in
theorem bld_string (B b : Nat) (bs : List Value) (s : ByteArray) (w : World) (h : Bld B b bs w) (hlen : bs.length + s.size ≤ 140737488355328) (hBw : B ≤ w.heap.size) :
    Calls Tryz.prog 71 #[.pointer (some ⟨b, 0, none⟩), .string s] w fun e w' => e = .returned (.tuple #[.int .i64 s.size, .nilIface]) ∧ Bld B b (bs ++ Lib.strCells s) w' ∧ Below B w w' := by
  obtain ⟨iv, hi, hz0, hz1, hz2⟩ := info_parts Tryz.infoByte
  have HI := Lib.hid hi
  have HZ0 := Lib.hid hz0
  have HZ1 := Lib.hid hz1
  have HZ2 := Lib.hid hz2
  have HC := Lib.hid (bld_check B b bs w h)
  clear hi hz0 hz1 hz2 h
  go_enter Tryz.func71, Tryz.ntmps71
  go_upto_region 2 with (go_at_call 86; go_must (refine HC.out.mono ?_; rintro e w1 ⟨rfl, h1, hb1, _⟩))
  obtain ⟨hB, v, hbk, hown, hne⟩ := h1
  have c0 : w1.cell? ⟨b, 0, none⟩ = some (.pointer (some ⟨b, 0, none⟩)) := by rw [Lib.cell_of_heap hbk]; rfl
  have c1 : w1.cell? ⟨b, 1, none⟩ = some v := by rw [Lib.cell_of_heap hbk]; rfl
  have hlt : b < w1.heap.size := (Array.getElem?_eq_some_iff.1 hbk).1
  have HBK := Lib.hid hbk
  have HOWN := Lib.hid hown
  have HNE := Lib.hid hne
  have HB1 := Lib.hid hb1
  clear hbk hown hne hb1
  go_wp2_with (at_builtin; go_must (refine Lib.wpList_append_own_string _ rfl _ _ 75 9 rfl B 5 iv Tryz.underlying75 Tryz.underlying9 HI.out HZ0.out HZ1.out HZ2.out _ _ _ rfl HOWN.out s rfl (by unfold maxLen; omega) (by omega) (by have := HB1.out.size; omega) ?_; intro v' w2 hown' hgrow _; have hb2 : w2.heap[b]? = some (.cells #[.pointer (some ⟨b, 0, none⟩), v] 113 (0, 0)) := (hgrow.block b hlt (fun e => HNE.out e.symm)).trans HBK.out; have d0 : w2.cell? ⟨b, 0, none⟩ = some (.pointer (some ⟨b, 0, none⟩)) := (by rw [Lib.cell_of_heap hb2]; rfl); have d1 : w2.cell? ⟨b, 1, none⟩ = some v := (by rw [Lib.cell_of_heap hb2]; rfl); have f1 : w2.frozen? ⟨b, 1, none⟩ = false := Lib.frozen_of_heap hb2 1; obtain ⟨ao, cap, rfl⟩ := own_len hown'; have HE := Lib.hid (bld_end (bs' := bs ++ Lib.strCells s) HB1.out hBw hB HOWN.out hb2 (by simpa [Lib.strCells_length] using hown') hgrow); have hlt2 := hgrow.size; clear hb2 hown' hgrow))
  go_ret2
  exact ⟨rfl, HE.out⟩
theorem news_bytes (s : ByteArray) (w : World) (eb : Nat) (h : ∀ i, i < s.size → w.cell? ⟨eb, 1 + i, none⟩ = some (.int .u8 ((s.data.toList.getD i 0).toNat : Int))) : ∀ j u, (Lib.strCells s)[j]? = some u → w.cell? ((⟨eb, 1, none⟩ : Addr).add j) = some u := fun j u hu => by
  have hj : j < s.size := by
    have := (List.getElem?_eq_some_iff.1 hu).1
    simpa [Lib.strCells_length] using this
  have hadd : (⟨eb, 1, none⟩ : Addr).add j = ⟨eb, 1 + j, none⟩ := by unfold Addr.add; split <;> simp_all
  rw [hadd, h j hj]
  simp [Lib.strCells] at hu
  obtain ⟨a, ha, rfl⟩ := hu
  simp [ha]
set_option maxHeartbeats 2000000 in
set_option maxRecDepth 100000 in
theorem bld_write (B b : Nat) (bs : List Value) (s : ByteArray) (w : World) (h : Bld B b bs w) (eb c : Nat) (heb : eb ≠ b) (hs0 : 0 < s.size) (hcells : ∀ i, i < s.size → w.cell? ⟨eb, 1 + i, none⟩ = some (.int .u8 ((s.data.toList.getD i 0).toNat : Int))) (hlen : bs.length + s.size ≤ 140737488355328) (hBw : B ≤ w.heap.size) :
    Calls Tryz.prog 183 #[.pointer (some ⟨b, 0, none⟩), .slice (some ⟨eb, 1, none⟩) s.size c] w fun e w' => e = .returned (.tuple #[.int .i64 s.size, .nilIface]) ∧ Bld B b (bs ++ Lib.strCells s) w' ∧ Below B w w' := by
  obtain ⟨iv, hi, hz0, hz1, hz2⟩ := info_parts Tryz.infoByte
  have HI := Lib.hid hi
  have HZ0 := Lib.hid hz0
  have HZ1 := Lib.hid hz1
  have HZ2 := Lib.hid hz2
  have HCS := Lib.hid hcells
  clear hcells
  have HC := Lib.hid (bld_check B b bs w h)
  clear hi hz0 hz1 hz2 h
  go_enter Tryz.func183, Tryz.ntmps183
  go_upto_region 2 with (go_at_call 86; go_must (refine HC.out.mono ?_; rintro e w1 ⟨rfl, h1, hb1, hch⟩))
  have HNW := Lib.hid (news_bytes s w1 eb fun i hi => by rw [← HCS.out i hi]; exact World.cell?_of_block (w := w) (hch.block eb (World.block_lt_of_cell? w ⟨eb, 1 + 0, none⟩ (HCS.out 0 hs0)) heb))
  have HLC := Lib.hid (Lib.strCells_length s)
  clear hch
  obtain ⟨hB, v, hbk, hown, hne⟩ := h1
  have c0 : w1.cell? ⟨b, 0, none⟩ = some (.pointer (some ⟨b, 0, none⟩)) := by rw [Lib.cell_of_heap hbk]; rfl
  have c1 : w1.cell? ⟨b, 1, none⟩ = some v := by rw [Lib.cell_of_heap hbk]; rfl
  have hlt : b < w1.heap.size := (Array.getElem?_eq_some_iff.1 hbk).1
  have HBK := Lib.hid hbk
  have HOWN := Lib.hid hown
  have HNE := Lib.hid hne
  have HB1 := Lib.hid hb1
  clear hbk hown hne hb1
  go_wp2_with (at_builtin; go_must (refine wpList_append_lies _ rfl _ _ _ rfl B 5 iv _ 1 1 Tryz.underlying75 HI.out HZ0.out HZ1.out HZ2.out rfl (by decide) v bs.length bs rfl HOWN.out ⟨eb, 1, none⟩ s.size c (Lib.strCells s) rfl (by rw [HLC.out, Nat.mul_one]) HNW.out (Lib.strCells_oneCell s) hs0 (by unfold maxLen; omega) (by omega) (by have := HB1.out.size; omega) w1.heap.size rfl ?_; intro gn cap w2 hown' hgrow _ _; have hb2 : w2.heap[b]? = some (.cells #[.pointer (some ⟨b, 0, none⟩), v] 113 (0, 0)) := (hgrow.block b hlt (fun e => HNE.out e.symm)).trans HBK.out; have d0 : w2.cell? ⟨b, 0, none⟩ = some (.pointer (some ⟨b, 0, none⟩)) := (by rw [Lib.cell_of_heap hb2]; rfl); have d1 : w2.cell? ⟨b, 1, none⟩ = some v := (by rw [Lib.cell_of_heap hb2]; rfl); have f1 : w2.frozen? ⟨b, 1, none⟩ = false := Lib.frozen_of_heap hb2 1; have HE := Lib.hid (bld_end (bs' := bs ++ Lib.strCells s) HB1.out hBw hB HOWN.out hb2 (by simpa [Lib.strCells_length] using hown') hgrow); have hlt2 := hgrow.size; clear hb2 hown' hgrow))
  go_ret2
  exact ⟨rfl, HE.out⟩
end Go.Proofs.YthggnkmlnjlggaaGreatDoor
