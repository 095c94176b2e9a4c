/-
  DERIVED: THE SHELF's CONTRACTS AT THIS DUMP, IN PLAIN WORDS (tools/lay-plain.mjs out of 'TrydLayI.lean', which tools/lay-shelf.mjs wrote): THE SAME DECLARATIONS UNDER THE SAME NAMES: 'import', 'namespace', 'open', 'def', 'theorem' AND NOTHING ELSE: no command of the shelf's: FOR A HAND-IN. Each laying: the table of numbers ('.._ren') and one theorem, a field a fact of the dump's own or the kernel's comparison; each contract: ONE APPLICATION.
-/
import Derived.Shelf.SlGeneric
import Derived.Shelf.SlIter.Nil
import Derived.Shelf.SortM.Plain
import Derived.Shelf.SortM.SortNone
import Derived.Ground.GgzProg
import Derived.Ground.SlgmProg
import Derived.Test.YtehfmaiogbehgaaDoorProg
namespace Go.Proofs
open Go.Shelf
def Tryd.keys_ren : Go.Shelf.Ren := ⟨fun | 7 => 30 | 10 => 36 | n => n, fun | 23 => 70 | 26 => 9 | 3 => 20 | 28 => 84 | 0 => 0 | 27 => 83 | 33 => 80 | 4 => 4 | n => n, fun | n => n⟩
theorem Tryd.keys : Go.Proofs.SlLaysZ.n7 Tryd.prog Tryd.keys_ren := {
  mixed := by kernel_rfl
  f7 := ⟨Tryd.f30.name, by decide, Tryd.func30.trans (congrArg some (by kernel_rfl))⟩
  f10 := ⟨Tryd.f36.name, by decide, Tryd.func36.trans (congrArg some (by kernel_rfl))⟩
  t0 := Tryd.underlying0
  a0 := Tryd.isAgg0
  z0 := Tryd.sizeOf0
  v0 := Tryd.zeroValue0
  t4 := Tryd.underlying4
  a4 := Tryd.isAgg4
  z4 := Tryd.sizeOf4
  v4 := Tryd.zeroValue4
  t23 := Tryd.underlying70
  a23 := Tryd.isAgg70
  z23 := Tryd.sizeOf70
  v23 := Tryd.zeroValue70
  t26 := Tryd.underlying9
  a26 := Tryd.isAgg9
  z26 := Tryd.sizeOf9
  v26 := Tryd.zeroValue9
  t27 := Tryd.underlying83
  a27 := Tryd.isAgg83
  z27 := Tryd.sizeOf83
  v27 := Tryd.zeroValue83
  t28 := Tryd.underlying84
  a28 := Tryd.isAgg84
  z28 := Tryd.sizeOf84
  v28 := Tryd.zeroValue84
  t33 := Tryd.underlying80
  a33 := Tryd.isAgg80
  z33 := Tryd.sizeOf80
  v33 := Tryd.zeroValue80 }
def Tryd.sorted_ren : Go.Shelf.Ren := ⟨fun | 6 => 29 | 8 => 34 | 9 => 35 | 11 => 41 | 13 => 43 | 12 => 42 | 23 => 53 | 24 => 54 | 14 => 44 | 15 => 45 | 16 => 46 | 17 => 47 | 18 => 48 | 19 => 49 | 20 => 50 | 21 => 51 | 22 => 52 | 25 => 55 | 26 => 56 | 27 => 57 | 28 => 58 | 29 => 59 | 30 => 60 | 31 => 61 | n => n, fun | 26 => 9 | 28 => 84 | 24 => 25 | 0 => 0 | 3 => 3 | 37 => 91 | 48 => 110 | 50 => 93 | 4 => 4 | 40 => 102 | 39 => 101 | 45 => 107 | 5 => 5 | 9 => 9 | 51 => 112 | 55 => 116 | 57 => 118 | 58 => 119 | 33 => 80 | n => n, fun | n => n⟩
theorem Tryd.sorted : Go.Proofs.SlLaysZ.n6 Tryd.prog Tryd.sorted_ren := {
  mixed := by kernel_rfl
  f6 := ⟨Tryd.f29.name, by decide, Tryd.func29.trans (congrArg some (by kernel_rfl))⟩
  f8 := ⟨Tryd.f34.name, by decide, Tryd.func34.trans (congrArg some (by kernel_rfl))⟩
  f11 := ⟨Tryd.f41.name, by decide, Tryd.func41.trans (congrArg some (by kernel_rfl))⟩
  t0 := Tryd.underlying0
  a0 := Tryd.isAgg0
  z0 := Tryd.sizeOf0
  v0 := Tryd.zeroValue0
  t24 := Tryd.underlying25
  a24 := Tryd.isAgg25
  z24 := Tryd.sizeOf25
  v24 := Tryd.zeroValue25
  t26 := Tryd.underlying9
  a26 := Tryd.isAgg9
  z26 := Tryd.sizeOf9
  v26 := Tryd.zeroValue9
  t28 := Tryd.underlying84
  a28 := Tryd.isAgg84
  z28 := Tryd.sizeOf84
  v28 := Tryd.zeroValue84
  i26 := by kernel_rfl }
def Tryd.sort_ren : Go.Shelf.Ren := ⟨fun | 6 => 35 | 8 => 43 | 9 => 42 | 19 => 53 | 20 => 54 | 21 => 44 | 22 => 45 | 23 => 46 | 24 => 47 | 25 => 48 | 26 => 49 | 27 => 50 | 28 => 51 | 29 => 52 | 36 => 55 | 31 => 56 | 32 => 57 | 37 => 58 | 38 => 59 | 39 => 60 | 41 => 61 | n => n, fun | 27 => 25 | 29 => 9 | 3 => 3 | 32 => 91 | 26 => 25 | 0 => 0 | 44 => 110 | 46 => 93 | 4 => 4 | 36 => 102 | 35 => 101 | 41 => 107 | 5 => 5 | 9 => 9 | 53 => 112 | 57 => 116 | 63 => 118 | 64 => 119 | n => n, fun | n => n⟩
theorem Tryd.sort : Go.Proofs.SlLaysM.n6 Tryd.prog Tryd.sort_ren := {
  mixed := by kernel_rfl
  f6 := ⟨Tryd.f35.name, by decide, Tryd.func35.trans (congrArg some (by kernel_rfl))⟩
  f8 := Tryd.func43.trans (congrArg some (by kernel_rfl))
  f9 := ⟨Tryd.f42.name, by decide, Tryd.func42.trans (congrArg some (by kernel_rfl))⟩
  f19 := Tryd.func53.trans (congrArg some (by kernel_rfl))
  f20 := Tryd.func54.trans (congrArg some (by kernel_rfl))
  f21 := ⟨Tryd.f44.name, by decide, Tryd.func44.trans (congrArg some (by kernel_rfl))⟩
  f22 := ⟨Tryd.f45.name, by decide, Tryd.func45.trans (congrArg some (by kernel_rfl))⟩
  f23 := ⟨Tryd.f46.name, by decide, Tryd.func46.trans (congrArg some (by kernel_rfl))⟩
  f24 := ⟨Tryd.f47.name, by decide, Tryd.func47.trans (congrArg some (by kernel_rfl))⟩
  f25 := ⟨Tryd.f48.name, by decide, Tryd.func48.trans (congrArg some (by kernel_rfl))⟩
  f26 := ⟨Tryd.f49.name, by decide, Tryd.func49.trans (congrArg some (by kernel_rfl))⟩
  f27 := ⟨Tryd.f50.name, by decide, Tryd.func50.trans (congrArg some (by kernel_rfl))⟩
  f28 := ⟨Tryd.f51.name, by decide, Tryd.func51.trans (congrArg some (by kernel_rfl))⟩
  f29 := ⟨Tryd.f52.name, by decide, Tryd.func52.trans (congrArg some (by kernel_rfl))⟩
  f31 := Tryd.func56.trans (congrArg some (by kernel_rfl))
  f32 := Tryd.func57.trans (congrArg some (by kernel_rfl))
  f36 := ⟨Tryd.f55.name, by decide, Tryd.func55.trans (congrArg some (by kernel_rfl))⟩
  f37 := ⟨Tryd.f58.name, by decide, Tryd.func58.trans (congrArg some (by kernel_rfl))⟩
  f38 := ⟨Tryd.f59.name, by decide, Tryd.func59.trans (congrArg some (by kernel_rfl))⟩
  f39 := ⟨Tryd.f60.name, by decide, Tryd.func60.trans (congrArg some (by kernel_rfl))⟩
  f41 := ⟨Tryd.f61.name, by decide, Tryd.func61.trans (congrArg some (by kernel_rfl))⟩
  t0 := Tryd.underlying0
  a0 := Tryd.isAgg0
  z0 := Tryd.sizeOf0
  v0 := Tryd.zeroValue0
  t3 := Tryd.underlying3
  a3 := Tryd.isAgg3
  z3 := Tryd.sizeOf3
  v3 := Tryd.zeroValue3
  t4 := Tryd.underlying4
  a4 := Tryd.isAgg4
  z4 := Tryd.sizeOf4
  v4 := Tryd.zeroValue4
  t5 := Tryd.underlying5
  a5 := Tryd.isAgg5
  z5 := Tryd.sizeOf5
  v5 := Tryd.zeroValue5
  t9 := Tryd.underlying9
  a9 := Tryd.isAgg9
  z9 := Tryd.sizeOf9
  v9 := Tryd.zeroValue9
  t26 := Tryd.underlying25
  a26 := Tryd.isAgg25
  z26 := Tryd.sizeOf25
  v26 := Tryd.zeroValue25
  t27 := Tryd.underlying25
  a27 := Tryd.isAgg25
  z27 := Tryd.sizeOf25
  v27 := Tryd.zeroValue25
  t29 := Tryd.underlying9
  a29 := Tryd.isAgg9
  z29 := Tryd.sizeOf9
  v29 := Tryd.zeroValue9
  t32 := Tryd.underlying91
  a32 := Tryd.isAgg91
  z32 := Tryd.sizeOf91
  v32 := Tryd.zeroValue91
  t35 := Tryd.underlying101
  a35 := Tryd.isAgg101
  z35 := Tryd.sizeOf101
  v35 := Tryd.zeroValue101
  t36 := Tryd.underlying102
  a36 := Tryd.isAgg102
  z36 := Tryd.sizeOf102
  v36 := Tryd.zeroValue102
  t41 := Tryd.underlying107
  a41 := Tryd.isAgg107
  z41 := Tryd.sizeOf107
  v41 := Tryd.zeroValue107
  t44 := Tryd.underlying110
  a44 := Tryd.isAgg110
  z44 := Tryd.sizeOf110
  v44 := Tryd.zeroValue110
  t46 := Tryd.underlying93
  a46 := Tryd.isAgg93
  z46 := Tryd.sizeOf93
  v46 := Tryd.zeroValue93
  t53 := Tryd.underlying112
  a53 := Tryd.isAgg112
  z53 := Tryd.sizeOf112
  v53 := Tryd.zeroValue112
  t57 := Tryd.underlying116
  a57 := Tryd.isAgg116
  z57 := Tryd.sizeOf116
  v57 := Tryd.zeroValue116
  t63 := Tryd.underlying118
  a63 := Tryd.isAgg118
  z63 := Tryd.sizeOf118
  v63 := Tryd.zeroValue118
  t64 := Tryd.underlying119
  a64 := Tryd.isAgg119
  z64 := Tryd.sizeOf119
  v64 := Tryd.zeroValue119 }
end Go.Proofs
