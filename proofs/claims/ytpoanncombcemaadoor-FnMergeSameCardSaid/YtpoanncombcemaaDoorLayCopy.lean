/-
  DERIVED: THE SHELF's CONTRACTS AT THIS DUMP, IN PLAIN WORDS (tools/lay-plain.mjs out of 'TrydLayC.lean', which tools/lay-shelf.mjs wrote): THE SAME DECLARATIONS UNDER THE SAME NAMES: 'import', 'namespace', 'open', 'def', 'theorem' AND NOTHING ELSE: no command of the shelf's: FOR A HAND-IN. Each laying: the table of numbers ('.._ren') and one theorem, a field a fact of the dump's own or the kernel's comparison; each contract: ONE APPLICATION.
-/
import Derived.Shelf.SlGeneric
import Derived.Shelf.SlMaps.Copy
import Derived.Ground.SlmpProg
import Derived.Test.YtpoanncombcemaaDoorProg
namespace Go.Proofs
open Go.Shelf
def Tryd.copy_ren : Go.Shelf.Ren := ⟨fun | 5 => 60 | n => n, fun | 23 => 58 | 24 => 58 | 26 => 9 | 27 => 20 | 0 => 0 | 4 => 4 | n => n, fun | n => n⟩
theorem Tryd.copy : Go.Proofs.SlLaysX.n5 Tryd.prog Tryd.copy_ren := {
  mixed := by kernel_rfl
  f5 := ⟨Tryd.f60.name, by decide, Tryd.func60.trans (congrArg some (by kernel_rfl))⟩
  t0 := Tryd.underlying0
  a0 := Tryd.isAgg0
  z0 := Tryd.sizeOf0
  v0 := Tryd.zeroValue0
  t4 := Tryd.underlying4
  a4 := Tryd.isAgg4
  z4 := Tryd.sizeOf4
  v4 := Tryd.zeroValue4
  t23 := Tryd.underlying58
  a23 := Tryd.isAgg58
  z23 := Tryd.sizeOf58
  v23 := Tryd.zeroValue58
  t24 := Tryd.underlying58
  a24 := Tryd.isAgg58
  z24 := Tryd.sizeOf58
  v24 := Tryd.zeroValue58
  a26 := Tryd.isAgg9
  z26 := Tryd.sizeOf9
  a27 := Tryd.isAgg20
  z27 := Tryd.sizeOf20 }
end Go.Proofs
