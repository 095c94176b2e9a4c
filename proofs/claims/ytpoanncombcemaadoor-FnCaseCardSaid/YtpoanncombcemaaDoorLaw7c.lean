/-
  Bytes turned one by one, as rows of the law's own; back to a text.
  Conditions: none.
-/
import Derived.Test.YtpoanncombcemaaDoorLaw7a
import Derived.Test.YtpoanncombcemaaDoorPoints
import Derived.Laws.IdiomStrings
import Derived.Laws.BytesArg
namespace Go.Proofs.YtpoanncombcemaaDoor
open Go.RowKit
attribute [local go_sem ↓] Go.wp_at_zero Go.wp_at_succ

theorem Tryd.infoByte : (Tryd.prog.info? 5).map (fun i => (i.zero, i.size, i.bytes)) = some (some (.int .u8 0), 1, 1) := by kernel_rfl
/-- A row of bytes of the call's own. -/
def ByteRow (w : World) (base : Nat) (l : List UInt8) (v : Value) : Prop := w.ownsRow base 5 1 v l.length (l.map fun b => Value.int .u8 (b.toNat : Int))
theorem ByteRow.text {w : World} {base : Nat} {l : List UInt8} {v : Value} (h : ByteRow w base l v) : (convert 44 9 v).run Tryd.prog w = .ok (.string ⟨l.toArray⟩) w := by
  rcases h.2 with ⟨rfl, h0⟩ | ⟨g, cap, cur, rfl, hb, hh, hn, _, _, ht⟩
  · obtain rfl := List.length_eq_zero_iff.1 h0
    kernel_rfl
  · refine run_convert_bytes_back w _ _ 5 _ cap l Tryd.underlying44 Tryd.underlying5 Tryd.underlying9 fun j hj => ?_
    have hadd : (⟨g, 0, none⟩ : Addr).add j = ⟨g, j, none⟩ := by unfold Addr.add; split <;> simp_all
    rw [hadd, cell_of_row w g j cur 5 (0, 0) hh]
    have e : (cur.toList.take (l.length * 1))[j]? = (l.map fun b => Value.int .u8 (b.toNat : Int))[j]? := by rw [ht]
    rw [List.getElem?_take_of_lt (by omega)] at e
    simp [hj] at e
    simpa using e
theorem ByteRow.old {w w' : World} {base : Nat} {l : List UInt8} {v : Value} (h : ByteRow w base l v) (ho : Old w w') : ByteRow w' base l v := own_old h ho

theorem spec_str (s : ByteArray) (w : World) : Calls Tryd.prog 28 #[.string s] w fun e w' => e = .returned (.agg #[.int .i64 4, .int .i64 0, .string s, .slice none 0 0, .slice none 0 0, .slice none 0 0]) ∧ Old w w' := by
  go_enter Tryd.func28, Tryd.ntmps28
  go_wp2
  refine bodyPost_ret (v := .agg #[.int .i64 4, .int .i64 0, .string s, .slice none 0 0, .slice none 0 0, .slice none 0 0]) (by simp [results, Tryd.results28, go_sem]) rfl ?_
  exact ⟨rfl, (Old.refl w).alloc _⟩

theorem dn_in (b : UInt8) (h : 65 ≤ b.toNat ∧ b.toNat ≤ 90) : Value.int .u8 ((b.toNat : Int) + 32) = .int .u8 ((downB b).toNat : Int) := by
  have e : (b + 32).toNat = b.toNat + 32 := by
    rw [UInt8.toNat_add]
    have : (32 : UInt8).toNat = 32 := rfl
    omega
  unfold downB
  rw [if_pos h, e]
  rfl
theorem dn_out (b : UInt8) (h : ¬ (65 ≤ b.toNat ∧ b.toNat ≤ 90)) : Value.int .u8 (b.toNat : Int) = .int .u8 ((downB b).toNat : Int) := by
  unfold downB
  rw [if_neg h]
theorem up_in (b : UInt8) (h : 97 ≤ b.toNat ∧ b.toNat ≤ 122) : Value.int .u8 ((b.toNat : Int) - 32) = .int .u8 ((upB b).toNat : Int) := by
  have e : (b - 32).toNat = b.toNat - 32 := by
    rw [UInt8.toNat_sub_of_le _ _ (by rw [UInt8.le_iff_toNat_le]; have : (32 : UInt8).toNat = 32 := rfl; omega)]
    rfl
  unfold upB
  rw [if_pos h, e]
  congr 1
  omega
theorem up_out (b : UInt8) (h : ¬ (97 ≤ b.toNat ∧ b.toNat ≤ 122)) : Value.int .u8 (b.toNat : Int) = .int .u8 ((upB b).toNat : Int) := by
  unfold upB
  rw [if_neg h]
/-- Behind j bytes below, k above. -/
structure Law7 (wx wr : World) (l : List UInt8) (j k : Nat) (v5 v6 : Value) : Prop where
  low : wr.ownsRow wx.heap.size 5 1 v5 j (((l.take j).map downB).map fun b => Value.int .u8 (b.toNat : Int))
  up : wr.ownsRow wx.heap.size 5 1 v6 k (((l.take k).map upB).map fun b => Value.int .u8 (b.toNat : Int))
  ne : ∀ b, v5.ownBlock = some b → v6.ownBlock ≠ some b
  old : Old wx wr
theorem Law7.start (wx : World) (l : List UInt8) : Law7 wx wx l 0 0 (.slice none 0 0) (.slice none 0 0) :=
  ⟨World.ownsRow_nil _ _ _ _, World.ownsRow_nil _ _ _ _, fun _ h => (by cases h), Old.refl _⟩
theorem Law7.later {wx wr w' : World} {l : List UInt8} {j k : Nat} {v5 v6 : Value} (h : Law7 wx wr l j k v5 v6) (ho : Old wr w') : Law7 wx w' l j k v5 v6 :=
  ⟨own_old h.low ho, own_old h.up ho, h.ne, h.old.trans ho⟩
theorem bytes_snoc {l : List UInt8} {k : Nat} {b : UInt8} (hb : l[k]? = some b) (f : UInt8 → UInt8) : (((l.take k).map f).map fun b => Value.int .u8 (b.toNat : Int)) ++ [.int .u8 ((f b).toNat : Int)] = ((l.take (k + 1)).map f).map fun b => Value.int .u8 (b.toNat : Int) := by
  have e : l.take (k + 1) = l.take k ++ [b] := by
    obtain ⟨h, rfl⟩ := List.getElem?_eq_some_iff.1 hb
    simp
  rw [e]
  simp
theorem Law7.one {wx w2 w3 : World} {l : List UInt8} {j k g c : Nat} {v5 v6 : Value} {b : UInt8} {x : Value} (h2 : Law7 wx w2 l j k v5 v6) (hb : l[j]? = some b) (hown : w3.ownsRow wx.heap.size 5 1 (.slice (some ⟨g, 0, none⟩) (j + 1) c) (j + 1) ((((l.take j).map downB).map fun b => Value.int .u8 (b.toNat : Int)) ++ [x]))
    (hg : w2.grownBy w3 v5.ownBlock) (hat : v5.ownBlock = some g ∨ g = w2.heap.size) (hx : x = .int .u8 ((downB b).toNat : Int)) : Law7 wx w3 l (j + 1) k (.slice (some ⟨g, 0, none⟩) (j + 1) c) v6 := by
  rw [hx, bytes_snoc hb downB] at hown
  refine ⟨hown, own_chg h2.up (Chg.grown (ok := fun b => v5.ownBlock ≠ some b) (Chg.refl _ _) hg fun k hk hb e => hb e.symm) (fun b hb e => h2.ne b e hb), fun b hb e => ?_, h2.old.grown hg fun k hk => (own_lt h2.low hk).1⟩
  have hgb : g = b := by simpa [Value.ownBlock] using hb
  subst hgb
  rcases hat with hat | hat
  · exact h2.ne _ hat e
  · have := (own_lt h2.up e).2
    omega
theorem Law7.two {wx w2 w3 : World} {l : List UInt8} {j k g c : Nat} {v5 v6 : Value} {b : UInt8} {x : Value} (h2 : Law7 wx w2 l j k v5 v6) (hb : l[k]? = some b) (hown : w3.ownsRow wx.heap.size 5 1 (.slice (some ⟨g, 0, none⟩) (k + 1) c) (k + 1) ((((l.take k).map upB).map fun b => Value.int .u8 (b.toNat : Int)) ++ [x]))
    (hg : w2.grownBy w3 v6.ownBlock) (hat : v6.ownBlock = some g ∨ g = w2.heap.size) (hx : x = .int .u8 ((upB b).toNat : Int)) : Law7 wx w3 l j (k + 1) v5 (.slice (some ⟨g, 0, none⟩) (k + 1) c) := by
  rw [hx, bytes_snoc hb upB] at hown
  refine ⟨own_chg h2.low (Chg.grown (ok := fun b => v6.ownBlock ≠ some b) (Chg.refl _ _) hg fun k hk hb e => hb e.symm) (fun b hb e => h2.ne b hb e), hown, fun b hb e => ?_, h2.old.grown hg fun k hk => (own_lt h2.up hk).1⟩
  have hgb : g = b := by simpa [Value.ownBlock] using e
  subst hgb
  rcases hat with hat | hat
  · exact h2.ne _ hb hat
  · have := (own_lt h2.low hb).2
    omega
theorem Law7.texts {wx wr : World} {t : ByteArray} {v5 v6 : Value} (h : Law7 wx wr t.data.toList t.size t.size v5 v6) :
    (convert 44 9 v5).run Tryd.prog wr = .ok (.string (turned downB t)) wr ∧ (convert 44 9 v6).run Tryd.prog wr = .ok (.string (turned upB t)) wr := by
  have hl : t.size = t.data.toList.length := Lib.size_eq t
  obtain ⟨h1, h2, _, _⟩ := h
  rw [List.take_of_length_le (by omega)] at h1 h2
  have k1 : ByteRow wr wx.heap.size (t.data.toList.map downB) v5 := by unfold ByteRow; rw [List.length_map, ← hl]; exact h1
  have k2 : ByteRow wr wx.heap.size (t.data.toList.map upB) v6 := by unfold ByteRow; rw [List.length_map, ← hl]; exact h2
  exact ⟨k1.text, k2.text⟩
end Go.Proofs.YtpoanncombcemaaDoor
