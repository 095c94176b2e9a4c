/-
  A text's code points: as the program gives them, and as the statement reckons them.
  Conditions: none.
-/
import Derived.Test.YtpoanncombcemaaDoorErr
import Derived.Test.YtpoanncombcemaaDoorLayDecode
import Derived.Shelf.Unicode.DecodeAny
import Derived.Lib.TrimU
import Derived.Laws.RangeAny
import Derived.Laws.IdiomStrings
import Derived.Deep.DeepMust
namespace Go.Proofs.YtpoanncombcemaaDoor
open Go.RowKit

def runesAt (s : ByteArray) : Nat → Nat → List Nat
  | 0, _ => []
  | f + 1, pos => if pos < s.size then (Utf8.decode s pos).1 :: runesAt s f (pos + (Utf8.decode s pos).2) else []
def runes (s : ByteArray) : List Nat := runesAt s s.size 0
theorem runesAt_len (s : ByteArray) : ∀ f pos, (runesAt s f pos).length ≤ f
  | 0, _ => by simp [runesAt]
  | f + 1, pos => by
    unfold runesAt
    split
    · have := runesAt_len s f (pos + (Utf8.decode s pos).2)
      simpa using this
    · simp
theorem runesFrom_eq (s : ByteArray) : ∀ f pos acc, Conv.runesFrom s f pos acc = acc ++ ((runesAt s f pos).map fun (r : Nat) => Value.int .i32 r).toArray
  | 0, _, acc => by simp [Conv.runesFrom, runesAt]
  | f + 1, pos, acc => by
    unfold Conv.runesFrom runesAt
    split
    · show Conv.runesFrom s f (pos + (Utf8.decode s pos).2) (acc.push (Value.int .i32 (Int.ofNat (Utf8.decode s pos).1))) = _
      rw [runesFrom_eq s f]
      simp
    · simp
theorem runes_size (s : ByteArray) : (Conv.runesFrom s s.size 0 #[]).size = (runes s).length := by rw [runesFrom_eq]; simp [runes]
theorem runesAt_le (s : ByteArray) : ∀ f pos, ∀ r ∈ runesAt s f pos, r ≤ 1114111
  | 0, _, r, h => by cases h
  | f + 1, pos, r, h => by
    unfold runesAt at h
    split at h
    · rcases List.mem_cons.1 h with rfl | h
      · exact Lib.rune_le s pos
      · exact runesAt_le s f _ r h
    · cases h

/-- So far, so many bytes. -/
def At (s : ByteArray) (pre : List Nat) (pos : Nat) : Prop := ∃ f, runes s = pre ++ runesAt s f pos ∧ s.size ≤ pos + f
theorem At.start (s : ByteArray) : At s [] 0 := ⟨s.size, rfl, by omega⟩
theorem At.next {s : ByteArray} {pre : List Nat} {pos : Nat} (h : At s pre pos) (hp : pos < s.size) : At s (pre ++ [(Utf8.decode s pos).1]) (pos + (Utf8.decode s pos).2) := by
  obtain ⟨f, h1, h2⟩ := h
  cases f with
  | zero => omega
  | succ f =>
    have := Lib.width_pos s pos
    refine ⟨f, ?_, by omega⟩
    rw [h1, List.append_assoc]
    simp [runesAt, hp]
theorem At.done {s : ByteArray} {pre : List Nat} {pos : Nat} (h : At s pre pos) (hp : ¬ pos < s.size) : pre = runes s := by
  obtain ⟨f, h1, h2⟩ := h
  rw [h1]
  cases f <;> simp [runesAt, hp]
theorem At.lt {s : ByteArray} {pre : List Nat} {pos : Nat} (h : At s pre pos) (hp : pos < s.size) : pre.length < (runes s).length := by
  obtain ⟨f, h1, h2⟩ := h
  rw [h1]
  cases f with
  | zero => omega
  | succ f => simp [runesAt, hp]
theorem At.width {s : ByteArray} {pos : Nat} (hp : pos < s.size) : pos + (Utf8.decode s pos).2 ≤ s.size := by
  simp only [Utf8.decode]
  repeat' split
  all_goals simp_all
  all_goals omega

theorem iter_set (wx : World) (s : ByteArray) (p g k : Nat) (v : Value) (h : g < wx.heap.size) : (wx.iter s p).setCell ⟨g, k, none⟩ v = (wx.setCell ⟨g, k, none⟩ v).iter s p :=
  World.setCell_alloc_past (.stringIter s p) g k v h
/-- The program's list so far. -/
structure Exploded (s : ByteArray) (w : World) (k : Nat) (wr : World) : Prop where
  ex : ∃ (pre : List Nat) (pos : Nat) (wx : World), pre.length = k ∧ At s pre pos ∧ wr = wx.iter s pos ∧ wx.heap.size = w.heap.size + 2 ∧ Old w wx ∧ ∃ cs, Blk wx (w.heap.size + 1) cs 20 ∧ cs.size = (runes s).length ∧ ∀ j, j < k → cs[j]? = some (.iface 3 (.int .i64 (pre.getD j 0 : Nat)))

set_option maxHeartbeats 1000000 in
theorem explode_any (s : ByteArray) (hs : s.size ≤ 1048576) (w : World) : Calls Tryd.prog 61 #[.string s] w fun e w' => ∃ v, e = .returned v ∧ KJ w' (fun _ => True) (.arr ((runes s).map fun (r : Nat) => .int r)) (.iface 65 v) ∧ Old w w' := by
  have hcv := fun w => run_runes_of_string (P := Tryd.prog) w 9 105 21 s Tryd.underlying9 Tryd.underlying105 Tryd.underlying21 (by rw [runes_size]; have := runesAt_len s s.size 0; unfold runes; omega)
  have hn : (runes s).length ≤ 1048576 := by have := runesAt_len s s.size 0; unfold runes; omega
  simp only [runes_size] at hcv
  have hmk := run_make_row' (P := Tryd.prog) 65 20 .nilIface 16 Tryd.underlying65 Tryd.infoAny rfl .i64 .i64 (runes s).length (by omega) (by omega)
  go_enter Tryd.func61, Tryd.ntmps61
  go_wp2
  go_loopg [4] (runes s).length (fun gk s4 wr => ∃ k, k + gk = (runes s).length ∧ s4 = .int .i64 k ∧ Exploded s w k wr)
  case atStart =>
    have hb := (Blk.new (w.alloc (.cells (Conv.runesFrom s s.size 0 #[] ++ Array.replicate (grownCap w (runes s).length 0 21 - (runes s).length) (Value.int .i32 0)) 21)) (madeCells #[.nilIface] (runes s).length) 20).drew
    rw [show (w.alloc (.cells (Conv.runesFrom s s.size 0 #[] ++ Array.replicate (grownCap w (runes s).length 0 21 - (runes s).length) (Value.int .i32 0)) 21)).heap.size = w.heap.size + 1 by simp] at hb
    exact ⟨0, by simp, rfl, [], 0, _, rfl, At.start s, rfl, (by simp), (((Old.refl w).alloc _).alloc _).drew, _, hb, (by simp [madeCells]), fun j hj => absurd hj (by omega)⟩
  case round =>
    obtain ⟨k, hk, rfl, ⟨pre, pos, wx, hpk, hat, rfl, hsz, hold, cs, hb, hcs, hj⟩⟩ := hrel
    have HK := Lib.hid hk
    clear hcv hmk
    by_cases hp : pos < s.size
    · have hnx := fun ty => run_next_any (P := Tryd.prog) wx s pos ty hp
      have hlt := hat.lt hp
      rw [hpk] at hlt
      have hat' := Lib.hid (hat.next hp)
      have hr : (Utf8.decode s pos).1 ≤ 1114111 := Lib.rune_le s pos
      obtain ⟨r, hr0⟩ : ∃ r, r = (Utf8.decode s pos).1 := ⟨_, rfl⟩
      obtain ⟨p', hp0⟩ : ∃ p', p' = pos + (Utf8.decode s pos).2 := ⟨_, rfl⟩
      rw [hsz] at hnx
      rw [← hr0] at hr
      simp only [← hr0, ← hp0] at hnx hat'
      have hbi : Blk (wx.iter s p') (w.heap.size + 1) cs 20 := hb.alloc _
      have hlk : k < cs.size := by omega
      have hy : (wx.iter s p').cell? ⟨w.heap.size + 1, k, none⟩ = some (cs[k]'hlk) := by rw [hbi.cell]; simp [hlk]
      have hz : (wx.iter s p').frozen? ⟨w.heap.size + 1, k, none⟩ = false := hbi.frozen k
      have hli := hbi.lt
      have HB := Lib.hid hb
      have HJ := Lib.hid hj
      have HOLD := Lib.hid hold
      have HCS := Lib.hid hcs
      have HPK := Lib.hid hpk
      have HSZ := Lib.hid hsz
      clear hb hj hold hcs hpk hat hr0 hp0 hbi
      go_wp2
      go_roundg (gk - 1)
      case measure => omega
      case rel =>
        refine ⟨k + 1, by omega, by go_num, ⟨pre ++ [r], p', wx.setCell ⟨w.heap.size + 1, k, none⟩ (.iface 3 (.int .i64 r)), by simp [HPK.out], hat'.out, iter_set wx s p' _ k _ (by rw [HSZ.out]; omega), by simpa [World.setCell] using HSZ.out, HOLD.out.setCell (Nat.le_succ _) _, cs.setIfInBounds k (.iface 3 (.int .i64 r)), HB.out.set k _, by simpa using HCS.out, fun j hjk => ?_⟩⟩
        by_cases he : j = k
        · subst he
          rw [Array.getElem?_setIfInBounds_self_of_lt hlk]
          simp [← HPK.out]
        · rw [Array.getElem?_setIfInBounds_ne (Ne.symm he), HJ.out j (by omega)]
          have : j < pre.length := by rw [HPK.out]; omega
          have e : (pre ++ [r])[j]? = pre[j]? := List.getElem?_append_left this
          simp [e, this]
    · have hnx := fun ty => run_next_end (P := Tryd.prog) wx s pos ty hp
      have hd := hat.done hp
      rw [hsz] at hnx
      have hkn : k = (runes s).length := by rw [← hd]; exact hpk.symm
      subst hkn
      go_wp2
      go_ret
      refine ⟨_, rfl, .arr _ _ (fun i => .iface 3 (.int .i64 ((runes s).getD i 0 : Nat))) ?_ fun i hi => ?_, hold.alloc _⟩
      · rw [List.length_map]
        refine ⟨_, _, rfl, Nat.le_refl _, (fun h => by (cases h)), fun _ => ⟨w.heap.size + 1, 0, cs, _, _, rfl, trivial, hb.alloc _, fun i hi => ⟨rfl, fun j hj' => ?_⟩⟩⟩
        obtain rfl : j = 0 := by omega
        have := hj i hi
        rw [hd] at this
        simpa using this
      · rw [List.length_map] at hi
        have : ((runes s).map fun (r : Nat) => J.int r)[i]'(by simpa using hi) = .int ((runes s).getD i 0 : Nat) := by simp [hi]
        rw [this]
        exact .int _
end Go.Proofs.YtpoanncombcemaaDoor
