/-
  A text's code points, reckoned by the statement; explode through the thin package's door.
  Conditions: none.
-/
import Derived.Test.YtpoanncombcemaaDoorRunes
import Derived.Lib.TrimUEq
namespace Go.Proofs.YtpoanncombcemaaDoor
open Go.RowKit

theorem decodeGo_cut (s : ByteArray) (pos : Nat) (h : pos < s.size) : Lib.decodeGo (s.extract pos s.size) = Utf8.decode s pos := by
  have hx : (s.extract pos s.size).data.toList = s.data.toList.drop pos := by
    rw [Lib.extract_data, List.take_of_length_le (by rw [List.length_drop, ← Lib.size_eq]; omega)]
  have hsz : (s.extract pos s.size).size ≠ 0 := by rw [Lib.size_eq, hx, List.length_drop, ← Lib.size_eq]; omega
  unfold Lib.decodeGo
  rw [if_neg hsz, ← Lib.decodeL_drop s pos, ← hx]
  rfl
theorem Tryd.infoInt : (Tryd.prog.info? 3).map (fun i => (i.zero, i.size, i.bytes)) = some (some (.int .i64 0), 1, 8) := by kernel_rfl
theorem decode_any (s : ByteArray) (w : World) (hT : Tabs w) : Calls Tryd.prog 40 #[.string s] w fun e w' => e = .returned (.tuple #[.int .i32 (Lib.decodeGo s).1, .int .i64 (Lib.decodeGo s).2]) ∧ Old w w' :=
  (Any.utf8_DecodeRuneInString Tryd.lays197 s w hT).mono fun _ _ ⟨he, hb⟩ => ⟨he, Old.of_below hb⟩

/-- The ints of a text's code points, as a row of the call's own. -/
def IntRow (w w' : World) (l : List Nat) (v : Value) : Prop := w'.ownsRow w.heap.size 3 1 v l.length (l.map fun (r : Nat) => Value.int .i64 r)
set_option maxHeartbeats 4000000 in
theorem points_any (s : ByteArray) (hs : s.size ≤ 1048576) (w : World) (hT : Tabs w) : Calls Tryd.prog 23 #[.string s] w fun e w' => ∃ v, e = .returned v ∧ IntRow w w' (runes s) v ∧ Old w w' := by
  obtain ⟨iv, hi, hz0, hz1, hz2⟩ := info_parts Tryd.infoInt
  have HI := Lib.hid hi
  have HZ0 := Lib.hid hz0
  have HZ1 := Lib.hid hz1
  have HZ2 := Lib.hid hz2
  have HT := Lib.hid hT
  have hn : (runes s).length ≤ 1048576 := by have := runesAt_len s s.size 0; unfold runes; omega
  clear hi hz0 hz1 hz2 hT
  go_enter Tryd.func23, Tryd.ntmps23
  go_wp2
  go_loopg [3, 4] (runes s).length (fun gk s3 s4 wr => ∃ pre pos, pre.length + gk = (runes s).length ∧ At s pre pos ∧ s4 = .int .i64 (pos : Nat) ∧ pos ≤ s.size ∧ IntRow w wr pre s3 ∧ Old w wr)
  case atStart => exact ⟨[], 0, by simp, At.start s, rfl, Nat.zero_le _, World.ownsRow_nil _ _ _ _, Old.refl w⟩
  case round =>
    obtain ⟨pre, pos, hk, hat, rfl, hpl, hrow, hold⟩ := hrel
    by_cases hp : pos < s.size
    · have hdec := decodeGo_cut s pos hp
      have hlt := hat.lt hp
      have hwd := At.width hp
      have hat' := hat.next hp
      have hr : (Utf8.decode s pos).1 ≤ 1114111 := Lib.rune_le s pos
      obtain ⟨r, hr0⟩ : ∃ r, r = (Utf8.decode s pos).1 := ⟨_, rfl⟩
      obtain ⟨wd, hp0⟩ : ∃ p', p' = (Utf8.decode s pos).2 := ⟨_, rfl⟩
      rw [← hr0] at hr
      rw [← hp0] at hwd
      rw [← hr0, ← hp0] at hat'
      have hd1 : (Lib.decodeGo (s.extract pos s.size)).1 = r := by rw [hdec, hr0]
      have hd2 : (Lib.decodeGo (s.extract pos s.size)).2 = wd := by rw [hdec, hp0]
      have HD := Lib.hid (decode_any (s.extract pos s.size) wr (HT.out.old hold))
      rw [hd1, hd2] at HD
      have HAT := Lib.hid hat'
      obtain ⟨A, c, rfl⟩ := own_len hrow
      have HROW := Lib.hid hrow
      have HOLD := Lib.hid hold
      clear hdec hat' hr0 hp0 hd1 hd2 hat hrow hold
      go_wp2_with (first
        | (go_at_call 40; go_must (refine HD.out.mono ?_; rintro e w2 ⟨rfl, ho⟩; have HO := Lib.hid ho; clear ho))
        | (at_builtin; refine wpList_append_lies _ rfl _ _ _ rfl w.heap.size 3 iv _ 1 8 Tryd.underlying41 HI.out HZ0.out HZ1.out HZ2.out rfl (by decide) (.slice A pre.length c) pre.length _ rfl (own_old HROW.out (HO.out.trans ((Old.refl _).alloc _))) ⟨w2.heap.size, 0, none⟩ 1 1 [.int .i64 (r : Nat)] rfl rfl (news_one rfl _ _ 0) (one_one rfl) (by decide) (by unfold maxLen; omega) (by omega) (by have := (HOLD.out.trans HO.out).size; simp; omega) _ rfl ?_; intro g cap w3 hown hgrow hatg hlt3; have HOWN := Lib.hid hown; have HO3 := Lib.hid ((HOLD.out.trans (HO.out.trans ((Old.refl _).alloc _))).grown hgrow (fun k hk => (own_lt HROW.out hk).1)); clear hown hgrow hatg))
      go_roundg (gk - 1)
      case measure => omega
      case rel =>
        refine ⟨pre ++ [r], pos + wd, by simp; omega, HAT.out, by go_num, hwd, ?_, HO3.out⟩
        have := HOWN.out
        unfold IntRow
        rw [List.length_append, List.map_append]
        exact this
    · have hd := hat.done hp
      subst hd
      go_wp2
      go_ret
      exact ⟨_, rfl, hrow, hold⟩
end Go.Proofs.YtpoanncombcemaaDoor
