/-
  DERIVED: THE SHELF's CONTRACTS AT THIS DUMP, IN PLAIN WORDS (tools/lay-plain.mjs out of 'TrydLayI.lean', which tools/lay-shelf.mjs wrote): THE SAME DECLARATIONS UNDER THE SAME NAMES: 'import', 'namespace', 'open', 'def', 'theorem' AND NOTHING ELSE: no command of the shelf's: FOR A HAND-IN. Each laying: the table of numbers ('.._ren') and one theorem, a field a fact of the dump's own or the kernel's comparison; each contract: ONE APPLICATION.
-/
import Derived.Shelf.SlGeneric
import Derived.Shelf.SlIter.Nil
import Derived.Shelf.SortM.Plain
import Derived.Shelf.SortM.SortNone
import Derived.Ground.GgzProg
import Derived.Ground.SlgmProg
import Derived.Test.YtpoanncombcemaaDoorProg
namespace Go.Proofs
open Go.Shelf
def Tryd.keys_ren : Go.Shelf.Ren := ⟨fun | 7 => 71 | 10 => 84 | n => n, fun | 23 => 58 | 26 => 9 | 3 => 20 | 28 => 102 | 0 => 0 | 27 => 101 | 33 => 84 | 4 => 4 | n => n, fun | n => n⟩
theorem Tryd.keys : Go.Proofs.SlLaysZ.n7 Tryd.prog Tryd.keys_ren := {
  mixed := by kernel_rfl
  f7 := ⟨Tryd.f71.name, by decide, Tryd.func71.trans (congrArg some (by kernel_rfl))⟩
  f10 := ⟨Tryd.f84.name, by decide, Tryd.func84.trans (congrArg some (by kernel_rfl))⟩
  t0 := Tryd.underlying0
  a0 := Tryd.isAgg0
  z0 := Tryd.sizeOf0
  v0 := Tryd.zeroValue0
  t4 := Tryd.underlying4
  a4 := Tryd.isAgg4
  z4 := Tryd.sizeOf4
  v4 := Tryd.zeroValue4
  t23 := Tryd.underlying58
  a23 := Tryd.isAgg58
  z23 := Tryd.sizeOf58
  v23 := Tryd.zeroValue58
  t26 := Tryd.underlying9
  a26 := Tryd.isAgg9
  z26 := Tryd.sizeOf9
  v26 := Tryd.zeroValue9
  t27 := Tryd.underlying101
  a27 := Tryd.isAgg101
  z27 := Tryd.sizeOf101
  v27 := Tryd.zeroValue101
  t28 := Tryd.underlying102
  a28 := Tryd.isAgg102
  z28 := Tryd.sizeOf102
  v28 := Tryd.zeroValue102
  t33 := Tryd.underlying84
  a33 := Tryd.isAgg84
  z33 := Tryd.sizeOf84
  v33 := Tryd.zeroValue84 }
def Tryd.sorted_ren : Go.Shelf.Ren := ⟨fun | 6 => 70 | 8 => 82 | 9 => 83 | 11 => 92 | 13 => 94 | 12 => 93 | 23 => 107 | 24 => 108 | 14 => 98 | 15 => 99 | 16 => 100 | 17 => 101 | 18 => 102 | 19 => 103 | 20 => 104 | 21 => 105 | 22 => 106 | 25 => 109 | 26 => 110 | 27 => 111 | 28 => 112 | 29 => 113 | 30 => 114 | 31 => 115 | n => n, fun | 26 => 9 | 28 => 102 | 24 => 24 | 0 => 0 | 3 => 3 | 37 => 93 | 48 => 130 | 50 => 118 | 4 => 4 | 40 => 133 | 39 => 132 | 45 => 138 | 5 => 5 | 9 => 9 | 51 => 142 | 55 => 146 | 57 => 148 | 58 => 149 | 33 => 84 | n => n, fun | n => n⟩
theorem Tryd.sorted : Go.Proofs.SlLaysZ.n6 Tryd.prog Tryd.sorted_ren := {
  mixed := by kernel_rfl
  f6 := ⟨Tryd.f70.name, by decide, Tryd.func70.trans (congrArg some (by kernel_rfl))⟩
  f8 := ⟨Tryd.f82.name, by decide, Tryd.func82.trans (congrArg some (by kernel_rfl))⟩
  f11 := ⟨Tryd.f92.name, by decide, Tryd.func92.trans (congrArg some (by kernel_rfl))⟩
  t0 := Tryd.underlying0
  a0 := Tryd.isAgg0
  z0 := Tryd.sizeOf0
  v0 := Tryd.zeroValue0
  t24 := Tryd.underlying24
  a24 := Tryd.isAgg24
  z24 := Tryd.sizeOf24
  v24 := Tryd.zeroValue24
  t26 := Tryd.underlying9
  a26 := Tryd.isAgg9
  z26 := Tryd.sizeOf9
  v26 := Tryd.zeroValue9
  t28 := Tryd.underlying102
  a28 := Tryd.isAgg102
  z28 := Tryd.sizeOf102
  v28 := Tryd.zeroValue102
  i26 := by kernel_rfl }
def Tryd.sort_ren : Go.Shelf.Ren := ⟨fun | 6 => 83 | 8 => 94 | 9 => 93 | 19 => 107 | 20 => 108 | 21 => 98 | 22 => 99 | 23 => 100 | 24 => 101 | 25 => 102 | 26 => 103 | 27 => 104 | 28 => 105 | 29 => 106 | 36 => 109 | 31 => 110 | 32 => 111 | 37 => 112 | 38 => 113 | 39 => 114 | 41 => 115 | n => n, fun | 27 => 24 | 29 => 9 | 3 => 3 | 32 => 93 | 26 => 24 | 0 => 0 | 44 => 130 | 46 => 118 | 4 => 4 | 36 => 133 | 35 => 132 | 41 => 138 | 5 => 5 | 9 => 9 | 53 => 142 | 57 => 146 | 63 => 148 | 64 => 149 | n => n, fun | n => n⟩
theorem Tryd.sort : Go.Proofs.SlLaysM.n6 Tryd.prog Tryd.sort_ren := {
  mixed := by kernel_rfl
  f6 := ⟨Tryd.f83.name, by decide, Tryd.func83.trans (congrArg some (by kernel_rfl))⟩
  f8 := Tryd.func94.trans (congrArg some (by kernel_rfl))
  f9 := ⟨Tryd.f93.name, by decide, Tryd.func93.trans (congrArg some (by kernel_rfl))⟩
  f19 := Tryd.func107.trans (congrArg some (by kernel_rfl))
  f20 := Tryd.func108.trans (congrArg some (by kernel_rfl))
  f21 := ⟨Tryd.f98.name, by decide, Tryd.func98.trans (congrArg some (by kernel_rfl))⟩
  f22 := ⟨Tryd.f99.name, by decide, Tryd.func99.trans (congrArg some (by kernel_rfl))⟩
  f23 := ⟨Tryd.f100.name, by decide, Tryd.func100.trans (congrArg some (by kernel_rfl))⟩
  f24 := ⟨Tryd.f101.name, by decide, Tryd.func101.trans (congrArg some (by kernel_rfl))⟩
  f25 := ⟨Tryd.f102.name, by decide, Tryd.func102.trans (congrArg some (by kernel_rfl))⟩
  f26 := ⟨Tryd.f103.name, by decide, Tryd.func103.trans (congrArg some (by kernel_rfl))⟩
  f27 := ⟨Tryd.f104.name, by decide, Tryd.func104.trans (congrArg some (by kernel_rfl))⟩
  f28 := ⟨Tryd.f105.name, by decide, Tryd.func105.trans (congrArg some (by kernel_rfl))⟩
  f29 := ⟨Tryd.f106.name, by decide, Tryd.func106.trans (congrArg some (by kernel_rfl))⟩
  f31 := Tryd.func110.trans (congrArg some (by kernel_rfl))
  f32 := Tryd.func111.trans (congrArg some (by kernel_rfl))
  f36 := ⟨Tryd.f109.name, by decide, Tryd.func109.trans (congrArg some (by kernel_rfl))⟩
  f37 := ⟨Tryd.f112.name, by decide, Tryd.func112.trans (congrArg some (by kernel_rfl))⟩
  f38 := ⟨Tryd.f113.name, by decide, Tryd.func113.trans (congrArg some (by kernel_rfl))⟩
  f39 := ⟨Tryd.f114.name, by decide, Tryd.func114.trans (congrArg some (by kernel_rfl))⟩
  f41 := ⟨Tryd.f115.name, by decide, Tryd.func115.trans (congrArg some (by kernel_rfl))⟩
  t0 := Tryd.underlying0
  a0 := Tryd.isAgg0
  z0 := Tryd.sizeOf0
  v0 := Tryd.zeroValue0
  t3 := Tryd.underlying3
  a3 := Tryd.isAgg3
  z3 := Tryd.sizeOf3
  v3 := Tryd.zeroValue3
  t4 := Tryd.underlying4
  a4 := Tryd.isAgg4
  z4 := Tryd.sizeOf4
  v4 := Tryd.zeroValue4
  t5 := Tryd.underlying5
  a5 := Tryd.isAgg5
  z5 := Tryd.sizeOf5
  v5 := Tryd.zeroValue5
  t9 := Tryd.underlying9
  a9 := Tryd.isAgg9
  z9 := Tryd.sizeOf9
  v9 := Tryd.zeroValue9
  t26 := Tryd.underlying24
  a26 := Tryd.isAgg24
  z26 := Tryd.sizeOf24
  v26 := Tryd.zeroValue24
  t27 := Tryd.underlying24
  a27 := Tryd.isAgg24
  z27 := Tryd.sizeOf24
  v27 := Tryd.zeroValue24
  t29 := Tryd.underlying9
  a29 := Tryd.isAgg9
  z29 := Tryd.sizeOf9
  v29 := Tryd.zeroValue9
  t32 := Tryd.underlying93
  a32 := Tryd.isAgg93
  z32 := Tryd.sizeOf93
  v32 := Tryd.zeroValue93
  t35 := Tryd.underlying132
  a35 := Tryd.isAgg132
  z35 := Tryd.sizeOf132
  v35 := Tryd.zeroValue132
  t36 := Tryd.underlying133
  a36 := Tryd.isAgg133
  z36 := Tryd.sizeOf133
  v36 := Tryd.zeroValue133
  t41 := Tryd.underlying138
  a41 := Tryd.isAgg138
  z41 := Tryd.sizeOf138
  v41 := Tryd.zeroValue138
  t44 := Tryd.underlying130
  a44 := Tryd.isAgg130
  z44 := Tryd.sizeOf130
  v44 := Tryd.zeroValue130
  t46 := Tryd.underlying118
  a46 := Tryd.isAgg118
  z46 := Tryd.sizeOf118
  v46 := Tryd.zeroValue118
  t53 := Tryd.underlying142
  a53 := Tryd.isAgg142
  z53 := Tryd.sizeOf142
  v53 := Tryd.zeroValue142
  t57 := Tryd.underlying146
  a57 := Tryd.isAgg146
  z57 := Tryd.sizeOf146
  v57 := Tryd.zeroValue146
  t63 := Tryd.underlying148
  a63 := Tryd.isAgg148
  z63 := Tryd.sizeOf148
  v63 := Tryd.zeroValue148
  t64 := Tryd.underlying149
  a64 := Tryd.isAgg149
  z64 := Tryd.sizeOf149
  v64 := Tryd.zeroValue149 }
end Go.Proofs
