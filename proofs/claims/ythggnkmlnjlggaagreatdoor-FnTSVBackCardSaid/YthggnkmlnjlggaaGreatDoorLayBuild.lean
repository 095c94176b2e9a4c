/-
  DERIVED: THE SHELF's CONTRACTS AT THIS DUMP, IN PLAIN WORDS (tools/lay-plain.mjs out of 'TryzLayB.lean', which tools/lay-shelf.mjs wrote): THE SAME DECLARATIONS UNDER THE SAME NAMES: 'import', 'namespace', 'open', 'def', 'theorem' AND NOTHING ELSE: no command of the shelf's: FOR A HAND-IN. Each laying: the table of numbers ('.._ren') and one theorem, a field a fact of the dump's own or the kernel's comparison; each contract: ONE APPLICATION.
-/
import Derived.Shelf.Strings.Builder1
import Derived.Shelf.Strings.Builder2
import Derived.Test.YthggnkmlnjlggaaGreatDoorProg
namespace Go.Proofs
open Go.Shelf
def Tryz.lays241_ren : Go.Shelf.Ren := ⟨fun | 241 => 87 | 277 => 107 | n => n, fun | 70 => 111 | 3 => 3 | 0 => 0 | 72 => 113 | 37 => 75 | 5 => 5 | n => n, fun | n => n⟩
theorem Tryz.lays241 : Go.Proofs.Lays.n241 Tryz.prog Tryz.lays241_ren := {
  mixed := by kernel_rfl
  f241 := Tryz.func87.trans (congrArg some (by kernel_rfl))
  f277 := Tryz.func107.trans (congrArg some (by kernel_rfl))
  t0 := Tryz.underlying0
  a0 := Tryz.isAgg0
  z0 := Tryz.sizeOf0
  v0 := Tryz.zeroValue0
  t3 := Tryz.underlying3
  a3 := Tryz.isAgg3
  z3 := Tryz.sizeOf3
  v3 := Tryz.zeroValue3
  t37 := Tryz.underlying75
  a37 := Tryz.isAgg75
  z37 := Tryz.sizeOf75
  v37 := Tryz.zeroValue75
  t70 := Tryz.underlying111
  a70 := Tryz.isAgg111
  z70 := Tryz.sizeOf111
  v70 := Tryz.zeroValue111
  t72 := Tryz.underlying113
  a72 := Tryz.isAgg113
  z72 := Tryz.sizeOf113
  v72 := Tryz.zeroValue113 }
def Tryz.lays169_ren : Go.Shelf.Ren := ⟨fun | 169 => 69 | n => n, fun | 70 => 111 | 9 => 9 | 0 => 0 | 72 => 113 | 37 => 75 | 127 => 139 | 3 => 3 | 5 => 5 | n => n, fun | n => n⟩
theorem Tryz.lays169 : Go.Proofs.Lays.n169 Tryz.prog Tryz.lays169_ren := {
  mixed := by kernel_rfl
  f169 := Tryz.func69.trans (congrArg some (by kernel_rfl))
  t0 := Tryz.underlying0
  a0 := Tryz.isAgg0
  z0 := Tryz.sizeOf0
  v0 := Tryz.zeroValue0
  t3 := Tryz.underlying3
  a3 := Tryz.isAgg3
  z3 := Tryz.sizeOf3
  v3 := Tryz.zeroValue3
  t9 := Tryz.underlying9
  a9 := Tryz.isAgg9
  z9 := Tryz.sizeOf9
  v9 := Tryz.zeroValue9
  t37 := Tryz.underlying75
  a37 := Tryz.isAgg75
  z37 := Tryz.sizeOf75
  v37 := Tryz.zeroValue75
  t70 := Tryz.underlying111
  a70 := Tryz.isAgg111
  z70 := Tryz.sizeOf111
  v70 := Tryz.zeroValue111
  t72 := Tryz.underlying113
  a72 := Tryz.isAgg113
  z72 := Tryz.sizeOf113
  v72 := Tryz.zeroValue113
  t127 := Tryz.underlying139
  a127 := Tryz.isAgg139
  z127 := Tryz.sizeOf139
  v127 := Tryz.zeroValue139 }
end Go.Proofs
