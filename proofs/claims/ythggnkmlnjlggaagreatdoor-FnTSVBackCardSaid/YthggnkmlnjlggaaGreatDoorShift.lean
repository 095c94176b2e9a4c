/-
  A decimal shifted down: the walk of shift.
  Conditions: none.
-/
import Derived.Test.YthggnkmlnjlggaaGreatDoorHalf
namespace Go.Proofs.YthggnkmlnjlggaaGreatDoor
open Go.RowKit

set_option maxHeartbeats 4000000 in
set_option maxRecDepth 100000 in
theorem shift_any (w : World) (g : Nat) (v : Value) (ds : List Nat) (dp : Int) (hc : Canon ds) (hl : ds.length ≤ 20) (hd : 0 ≤ dp ∧ dp ≤ 100) (k : Nat) (hk : 1 ≤ k ∧ k ≤ 59) (h : DecAt w g v ds dp) (z : Int) (hzk : z = -(k : Int)) :
    Calls Tryz.prog 127 #[.pointer (some ⟨g, 0, none⟩), .int .i64 z] w (HalfAns w g ds dp k) := by
  have HH := Lib.hid (dhalf_any w g v ds dp hc hl hd k hk h)
  obtain ⟨hk1, hk2⟩ := hk
  subst hzk
  clear hc hl hd h
  go_enter Tryz.func127, Tryz.ntmps127
  go_wp2
  go_loopg [1] 0 (fun gk s1 wr => s1 = .int .i64 (-(k : Int)) ∧ w = wr)
  case atStart => exact ⟨rfl, rfl⟩
  case round =>
    obtain ⟨rfl, rfl⟩ := hrel
    go_wp2
    go_loopg [1] 0 (fun gk s1 wr => s1 = .int .i64 (-(k : Int)) ∧ w = wr)
    case atStart => exact ⟨rfl, rfl⟩
    case round =>
      obtain ⟨rfl, rfl⟩ := hrel
      go_wp2_with (go_at_call 152; go_must (refine HH.out.mono ?_; rintro e w5 ⟨rfl, hA⟩; have HA := Lib.hid hA; clear hA))
      go_end0
      exact ⟨rfl, HA.out⟩
end Go.Proofs.YthggnkmlnjlggaaGreatDoor
