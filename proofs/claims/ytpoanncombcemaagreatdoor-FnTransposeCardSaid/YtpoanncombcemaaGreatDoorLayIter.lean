/-
  DERIVED: THE SHELF's CONTRACTS AT THIS DUMP, IN PLAIN WORDS (tools/lay-plain.mjs out of 'TryzLayI.lean', which tools/lay-shelf.mjs wrote): THE SAME DECLARATIONS UNDER THE SAME NAMES: 'import', 'namespace', 'open', 'def', 'theorem' AND NOTHING ELSE: no command of the shelf's: FOR A HAND-IN. Each laying: the table of numbers ('.._ren') and one theorem, a field a fact of the dump's own or the kernel's comparison; each contract: ONE APPLICATION.
-/
import Derived.Shelf.SlGeneric
import Derived.Shelf.SlIter.Nil
import Derived.Shelf.SortM.Plain
import Derived.Shelf.SortM.SortNone
import Derived.Ground.GgzProg
import Derived.Ground.SlgmProg
import Derived.Test.YtpoanncombcemaaGreatDoorProg
namespace Go.Proofs
open Go.Shelf
def Tryz.keys_ren : Go.Shelf.Ren := ⟨fun | 7 => 142 | 10 => 157 | n => n, fun | 23 => 78 | 26 => 9 | 3 => 20 | 28 => 153 | 0 => 0 | 27 => 152 | 33 => 98 | 4 => 4 | n => n, fun | n => n⟩
theorem Tryz.keys : Go.Proofs.SlLaysZ.n7 Tryz.prog Tryz.keys_ren := {
  mixed := by kernel_rfl
  f7 := ⟨Tryz.f142.name, by decide, Tryz.func142.trans (congrArg some (by kernel_rfl))⟩
  f10 := ⟨Tryz.f157.name, by decide, Tryz.func157.trans (congrArg some (by kernel_rfl))⟩
  t0 := Tryz.underlying0
  a0 := Tryz.isAgg0
  z0 := Tryz.sizeOf0
  v0 := Tryz.zeroValue0
  t4 := Tryz.underlying4
  a4 := Tryz.isAgg4
  z4 := Tryz.sizeOf4
  v4 := Tryz.zeroValue4
  t23 := Tryz.underlying78
  a23 := Tryz.isAgg78
  z23 := Tryz.sizeOf78
  v23 := Tryz.zeroValue78
  t26 := Tryz.underlying9
  a26 := Tryz.isAgg9
  z26 := Tryz.sizeOf9
  v26 := Tryz.zeroValue9
  t27 := Tryz.underlying152
  a27 := Tryz.isAgg152
  z27 := Tryz.sizeOf152
  v27 := Tryz.zeroValue152
  t28 := Tryz.underlying153
  a28 := Tryz.isAgg153
  z28 := Tryz.sizeOf153
  v28 := Tryz.zeroValue153
  t33 := Tryz.underlying98
  a33 := Tryz.isAgg98
  z33 := Tryz.sizeOf98
  v33 := Tryz.zeroValue98 }
def Tryz.sorted_ren : Go.Shelf.Ren := ⟨fun | 6 => 141 | 8 => 155 | 9 => 156 | 11 => 165 | 13 => 167 | 12 => 166 | 23 => 186 | 24 => 187 | 14 => 177 | 15 => 178 | 16 => 179 | 17 => 180 | 18 => 181 | 19 => 182 | 20 => 183 | 21 => 184 | 22 => 185 | 25 => 198 | 26 => 199 | 27 => 200 | 28 => 201 | 29 => 202 | 30 => 203 | 31 => 212 | n => n, fun | 26 => 9 | 28 => 153 | 24 => 25 | 0 => 0 | 3 => 3 | 37 => 102 | 48 => 205 | 50 => 157 | 4 => 4 | 40 => 199 | 39 => 198 | 45 => 68 | 5 => 5 | 9 => 9 | 51 => 221 | 55 => 225 | 57 => 239 | 58 => 240 | 33 => 98 | n => n, fun | n => n⟩
theorem Tryz.sorted : Go.Proofs.SlLaysZ.n6 Tryz.prog Tryz.sorted_ren := {
  mixed := by kernel_rfl
  f6 := ⟨Tryz.f141.name, by decide, Tryz.func141.trans (congrArg some (by kernel_rfl))⟩
  f8 := ⟨Tryz.f155.name, by decide, Tryz.func155.trans (congrArg some (by kernel_rfl))⟩
  f11 := ⟨Tryz.f165.name, by decide, Tryz.func165.trans (congrArg some (by kernel_rfl))⟩
  t0 := Tryz.underlying0
  a0 := Tryz.isAgg0
  z0 := Tryz.sizeOf0
  v0 := Tryz.zeroValue0
  t24 := Tryz.underlying25
  a24 := Tryz.isAgg25
  z24 := Tryz.sizeOf25
  v24 := Tryz.zeroValue25
  t26 := Tryz.underlying9
  a26 := Tryz.isAgg9
  z26 := Tryz.sizeOf9
  v26 := Tryz.zeroValue9
  t28 := Tryz.underlying153
  a28 := Tryz.isAgg153
  z28 := Tryz.sizeOf153
  v28 := Tryz.zeroValue153
  i26 := by kernel_rfl }
def Tryz.sort_ren : Go.Shelf.Ren := ⟨fun | 6 => 156 | 8 => 167 | 9 => 166 | 19 => 186 | 20 => 187 | 21 => 177 | 22 => 178 | 23 => 179 | 24 => 180 | 25 => 181 | 26 => 182 | 27 => 183 | 28 => 184 | 29 => 185 | 36 => 198 | 31 => 199 | 32 => 200 | 37 => 201 | 38 => 202 | 39 => 203 | 41 => 212 | n => n, fun | 27 => 25 | 29 => 9 | 3 => 3 | 32 => 102 | 26 => 25 | 0 => 0 | 44 => 205 | 46 => 157 | 4 => 4 | 36 => 199 | 35 => 198 | 41 => 68 | 5 => 5 | 9 => 9 | 53 => 221 | 57 => 225 | 63 => 239 | 64 => 240 | n => n, fun | n => n⟩
theorem Tryz.sort : Go.Proofs.SlLaysM.n6 Tryz.prog Tryz.sort_ren := {
  mixed := by kernel_rfl
  f6 := ⟨Tryz.f156.name, by decide, Tryz.func156.trans (congrArg some (by kernel_rfl))⟩
  f8 := Tryz.func167.trans (congrArg some (by kernel_rfl))
  f9 := ⟨Tryz.f166.name, by decide, Tryz.func166.trans (congrArg some (by kernel_rfl))⟩
  f19 := Tryz.func186.trans (congrArg some (by kernel_rfl))
  f20 := Tryz.func187.trans (congrArg some (by kernel_rfl))
  f21 := ⟨Tryz.f177.name, by decide, Tryz.func177.trans (congrArg some (by kernel_rfl))⟩
  f22 := ⟨Tryz.f178.name, by decide, Tryz.func178.trans (congrArg some (by kernel_rfl))⟩
  f23 := ⟨Tryz.f179.name, by decide, Tryz.func179.trans (congrArg some (by kernel_rfl))⟩
  f24 := ⟨Tryz.f180.name, by decide, Tryz.func180.trans (congrArg some (by kernel_rfl))⟩
  f25 := ⟨Tryz.f181.name, by decide, Tryz.func181.trans (congrArg some (by kernel_rfl))⟩
  f26 := ⟨Tryz.f182.name, by decide, Tryz.func182.trans (congrArg some (by kernel_rfl))⟩
  f27 := ⟨Tryz.f183.name, by decide, Tryz.func183.trans (congrArg some (by kernel_rfl))⟩
  f28 := ⟨Tryz.f184.name, by decide, Tryz.func184.trans (congrArg some (by kernel_rfl))⟩
  f29 := ⟨Tryz.f185.name, by decide, Tryz.func185.trans (congrArg some (by kernel_rfl))⟩
  f31 := Tryz.func199.trans (congrArg some (by kernel_rfl))
  f32 := Tryz.func200.trans (congrArg some (by kernel_rfl))
  f36 := ⟨Tryz.f198.name, by decide, Tryz.func198.trans (congrArg some (by kernel_rfl))⟩
  f37 := ⟨Tryz.f201.name, by decide, Tryz.func201.trans (congrArg some (by kernel_rfl))⟩
  f38 := ⟨Tryz.f202.name, by decide, Tryz.func202.trans (congrArg some (by kernel_rfl))⟩
  f39 := ⟨Tryz.f203.name, by decide, Tryz.func203.trans (congrArg some (by kernel_rfl))⟩
  f41 := ⟨Tryz.f212.name, by decide, Tryz.func212.trans (congrArg some (by kernel_rfl))⟩
  t0 := Tryz.underlying0
  a0 := Tryz.isAgg0
  z0 := Tryz.sizeOf0
  v0 := Tryz.zeroValue0
  t3 := Tryz.underlying3
  a3 := Tryz.isAgg3
  z3 := Tryz.sizeOf3
  v3 := Tryz.zeroValue3
  t4 := Tryz.underlying4
  a4 := Tryz.isAgg4
  z4 := Tryz.sizeOf4
  v4 := Tryz.zeroValue4
  t5 := Tryz.underlying5
  a5 := Tryz.isAgg5
  z5 := Tryz.sizeOf5
  v5 := Tryz.zeroValue5
  t9 := Tryz.underlying9
  a9 := Tryz.isAgg9
  z9 := Tryz.sizeOf9
  v9 := Tryz.zeroValue9
  t26 := Tryz.underlying25
  a26 := Tryz.isAgg25
  z26 := Tryz.sizeOf25
  v26 := Tryz.zeroValue25
  t27 := Tryz.underlying25
  a27 := Tryz.isAgg25
  z27 := Tryz.sizeOf25
  v27 := Tryz.zeroValue25
  t29 := Tryz.underlying9
  a29 := Tryz.isAgg9
  z29 := Tryz.sizeOf9
  v29 := Tryz.zeroValue9
  t32 := Tryz.underlying102
  a32 := Tryz.isAgg102
  z32 := Tryz.sizeOf102
  v32 := Tryz.zeroValue102
  t35 := Tryz.underlying198
  a35 := Tryz.isAgg198
  z35 := Tryz.sizeOf198
  v35 := Tryz.zeroValue198
  t36 := Tryz.underlying199
  a36 := Tryz.isAgg199
  z36 := Tryz.sizeOf199
  v36 := Tryz.zeroValue199
  t41 := Tryz.underlying68
  a41 := Tryz.isAgg68
  z41 := Tryz.sizeOf68
  v41 := Tryz.zeroValue68
  t44 := Tryz.underlying205
  a44 := Tryz.isAgg205
  z44 := Tryz.sizeOf205
  v44 := Tryz.zeroValue205
  t46 := Tryz.underlying157
  a46 := Tryz.isAgg157
  z46 := Tryz.sizeOf157
  v46 := Tryz.zeroValue157
  t53 := Tryz.underlying221
  a53 := Tryz.isAgg221
  z53 := Tryz.sizeOf221
  v53 := Tryz.zeroValue221
  t57 := Tryz.underlying225
  a57 := Tryz.isAgg225
  z57 := Tryz.sizeOf225
  v57 := Tryz.zeroValue225
  t63 := Tryz.underlying239
  a63 := Tryz.isAgg239
  z63 := Tryz.sizeOf239
  v63 := Tryz.zeroValue239
  t64 := Tryz.underlying240
  a64 := Tryz.isAgg240
  z64 := Tryz.sizeOf240
  v64 := Tryz.zeroValue240 }
end Go.Proofs
