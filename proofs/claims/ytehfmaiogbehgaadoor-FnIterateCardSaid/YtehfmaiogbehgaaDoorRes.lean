/-
  A value of the program is no error.
  Conditions: the value is right.
-/
import Derived.Test.YtehfmaiogbehgaaDoorFrom4
import Derived.Stop.Asserts
namespace Go.Proofs.YtehfmaiogbehgaaDoor
open Go.RowKit

theorem err_nil (w : World) : (Instr.typeAssert .nilIface 20 50 true).run Tryd.prog w = .ok (.tuple #[.nilIface, .bool false]) w := by kernel_rfl
theorem err_bool (v : Value) (w : World) : (Instr.typeAssert (.iface 4 v) 20 50 true).run Tryd.prog w = .ok (.tuple #[.nilIface, .bool false]) w := run_typeAssert_lacksB Tryd.underlying50 (by kernel_rfl) (by kernel_rfl) v _ w
theorem err_int (v : Value) (w : World) : (Instr.typeAssert (.iface 3 v) 20 50 true).run Tryd.prog w = .ok (.tuple #[.nilIface, .bool false]) w := run_typeAssert_lacksB Tryd.underlying50 (by kernel_rfl) (by kernel_rfl) v _ w
theorem err_flt (v : Value) (w : World) : (Instr.typeAssert (.iface 69 v) 20 50 true).run Tryd.prog w = .ok (.tuple #[.nilIface, .bool false]) w := run_typeAssert_lacksB Tryd.underlying50 (by kernel_rfl) (by kernel_rfl) v _ w
theorem err_str (v : Value) (w : World) : (Instr.typeAssert (.iface 9 v) 20 50 true).run Tryd.prog w = .ok (.tuple #[.nilIface, .bool false]) w := run_typeAssert_lacksB Tryd.underlying50 (by kernel_rfl) (by kernel_rfl) v _ w
theorem err_arr (v : Value) (w : World) : (Instr.typeAssert (.iface 34 v) 20 50 true).run Tryd.prog w = .ok (.tuple #[.nilIface, .bool false]) w := run_typeAssert_lacksB Tryd.underlying50 (by kernel_rfl) (by kernel_rfl) v _ w
theorem err_obj (v : Value) (w : World) : (Instr.typeAssert (.iface 70 v) 20 50 true).run Tryd.prog w = .ok (.tuple #[.nilIface, .bool false]) w := run_typeAssert_lacksB Tryd.underlying50 (by kernel_rfl) (by kernel_rfl) v _ w
theorem err_none {w0 : World} {ok : Nat → Prop} {j : J} {x : Value} (h : KJ w0 ok j x) (w : World) : (Instr.typeAssert x 20 50 true).run Tryd.prog w = .ok (.tuple #[.nilIface, .bool false]) w := by
  cases h
  · exact err_nil w
  · exact err_bool _ w
  · exact err_int _ w
  · exact err_flt _ w
  · exact err_str _ w
  · exact err_arr _ w
  · exact err_obj _ w

end Go.Proofs.YtehfmaiogbehgaaDoor
