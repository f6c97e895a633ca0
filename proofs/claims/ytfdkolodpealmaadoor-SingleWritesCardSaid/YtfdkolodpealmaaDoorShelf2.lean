/-
  DERIVED: THE SHELF's CONTRACTS AT THIS DUMP, IN PLAIN WORDS (tools/lay-plain.mjs out of 'TrydShelf2.lean', which tools/lay-shelf.mjs wrote): THE SAME DECLARATIONS UNDER THE SAME NAMES: 'import', 'namespace', 'open', 'def', 'theorem' AND NOTHING ELSE: no command of the shelf's: FOR A HAND-IN. Each laying: the table of numbers ('.._ren') and one theorem, a field a fact of the dump's own or the kernel's comparison; each contract: ONE APPLICATION.
-/
import Derived.Shelf.SlSortCmp.WholeK
import Derived.Ground.SlsfProg
import Derived.Shelf.SlicesQ.IndexFunc
import Derived.Ground.SlgfProg
import Derived.Shelf.Spec.SlicesGrow
import Derived.Ground.Names8Prog
import Derived.Test.YtfdkolodpealmaaDoorProg
namespace Go.Proofs
open Go.Shelf
def Tryd.sortPair_ren : Go.Shelf.Ren := ⟨fun | 6 => 44 | 15 => 60 | 14 => 59 | 28 => 77 | 29 => 78 | 20 => 69 | 21 => 70 | 22 => 71 | 23 => 72 | 24 => 73 | 25 => 74 | 26 => 75 | 27 => 76 | 46 => 82 | 47 => 83 | 48 => 84 | 49 => 85 | 50 => 86 | 57 => 89 | n => n, fun | 22 => 61 | 24 => 64 | 25 => 93 | 3 => 3 | 39 => 107 | 0 => 0 | 53 => 108 | 55 => 75 | 4 => 4 | 46 => 122 | 45 => 121 | 50 => 72 | 5 => 5 | 9 => 9 | 66 => 130 | 70 => 134 | 76 => 143 | 77 => 144 | n => n, fun | n => n⟩
theorem Tryd.sortPair : Go.Proofs.SlLaysF0.n6 Tryd.prog Tryd.sortPair_ren := {
  mixed := by kernel_rfl
  f6 := ⟨Tryd.f44.name, by decide, Tryd.func44.trans (congrArg some (by kernel_rfl))⟩
  f14 := ⟨Tryd.f59.name, by decide, Tryd.func59.trans (congrArg some (by kernel_rfl))⟩
  f15 := Tryd.func60.trans (congrArg some (by kernel_rfl))
  f20 := ⟨Tryd.f69.name, by decide, Tryd.func69.trans (congrArg some (by kernel_rfl))⟩
  f21 := ⟨Tryd.f70.name, by decide, Tryd.func70.trans (congrArg some (by kernel_rfl))⟩
  f22 := ⟨Tryd.f71.name, by decide, Tryd.func71.trans (congrArg some (by kernel_rfl))⟩
  f23 := ⟨Tryd.f72.name, by decide, Tryd.func72.trans (congrArg some (by kernel_rfl))⟩
  f24 := ⟨Tryd.f73.name, by decide, Tryd.func73.trans (congrArg some (by kernel_rfl))⟩
  f25 := ⟨Tryd.f74.name, by decide, Tryd.func74.trans (congrArg some (by kernel_rfl))⟩
  f26 := ⟨Tryd.f75.name, by decide, Tryd.func75.trans (congrArg some (by kernel_rfl))⟩
  f27 := ⟨Tryd.f76.name, by decide, Tryd.func76.trans (congrArg some (by kernel_rfl))⟩
  f28 := Tryd.func77.trans (congrArg some (by kernel_rfl))
  f29 := Tryd.func78.trans (congrArg some (by kernel_rfl))
  f46 := ⟨Tryd.f82.name, by decide, Tryd.func82.trans (congrArg some (by kernel_rfl))⟩
  f47 := Tryd.func83.trans (congrArg some (by kernel_rfl))
  f48 := Tryd.func84.trans (congrArg some (by kernel_rfl))
  f49 := ⟨Tryd.f85.name, by decide, Tryd.func85.trans (congrArg some (by kernel_rfl))⟩
  f50 := ⟨Tryd.f86.name, by decide, Tryd.func86.trans (congrArg some (by kernel_rfl))⟩
  f57 := ⟨Tryd.f89.name, by decide, Tryd.func89.trans (congrArg some (by kernel_rfl))⟩
  t0 := Tryd.underlying0
  a0 := Tryd.isAgg0
  z0 := Tryd.sizeOf0
  v0 := Tryd.zeroValue0
  t3 := Tryd.underlying3
  a3 := Tryd.isAgg3
  z3 := Tryd.sizeOf3
  v3 := Tryd.zeroValue3
  t4 := Tryd.underlying4
  a4 := Tryd.isAgg4
  z4 := Tryd.sizeOf4
  v4 := Tryd.zeroValue4
  t5 := Tryd.underlying5
  a5 := Tryd.isAgg5
  z5 := Tryd.sizeOf5
  v5 := Tryd.zeroValue5
  t9 := Tryd.underlying9
  a9 := Tryd.isAgg9
  z9 := Tryd.sizeOf9
  v9 := Tryd.zeroValue9
  t22 := Tryd.underlying61
  a22 := Tryd.isAgg61
  z22 := Tryd.sizeOf61
  v22 := Tryd.zeroValue61
  t25 := Tryd.underlying93
  a25 := Tryd.isAgg93
  z25 := Tryd.sizeOf93
  v25 := Tryd.zeroValue93
  t39 := Tryd.underlying107
  a39 := Tryd.isAgg107
  z39 := Tryd.sizeOf107
  v39 := Tryd.zeroValue107
  t45 := Tryd.underlying121
  a45 := Tryd.isAgg121
  z45 := Tryd.sizeOf121
  v45 := Tryd.zeroValue121
  t46 := Tryd.underlying122
  a46 := Tryd.isAgg122
  z46 := Tryd.sizeOf122
  v46 := Tryd.zeroValue122
  t50 := Tryd.underlying72
  a50 := Tryd.isAgg72
  z50 := Tryd.sizeOf72
  v50 := Tryd.zeroValue72
  t53 := Tryd.underlying108
  a53 := Tryd.isAgg108
  z53 := Tryd.sizeOf108
  v53 := Tryd.zeroValue108
  t55 := Tryd.underlying75
  a55 := Tryd.isAgg75
  z55 := Tryd.sizeOf75
  v55 := Tryd.zeroValue75
  t66 := Tryd.underlying130
  a66 := Tryd.isAgg130
  z66 := Tryd.sizeOf130
  v66 := Tryd.zeroValue130
  t70 := Tryd.underlying134
  a70 := Tryd.isAgg134
  z70 := Tryd.sizeOf134
  v70 := Tryd.zeroValue134
  t76 := Tryd.underlying143
  a76 := Tryd.isAgg143
  z76 := Tryd.sizeOf143
  v76 := Tryd.zeroValue143
  t77 := Tryd.underlying144
  a77 := Tryd.isAgg144
  z77 := Tryd.sizeOf144
  v77 := Tryd.zeroValue144 }
def Tryd.contRow_ren : Go.Shelf.Ren := ⟨fun | 8 => 57 | 6 => 68 | n => n, fun | 22 => 86 | 23 => 88 | 25 => 104 | 4 => 4 | 3 => 3 | 0 => 0 | n => n, fun | n => n⟩
theorem Tryd.contRow : Go.Proofs.SlLaysH0.n8 Tryd.prog Tryd.contRow_ren := {
  mixed := by kernel_rfl
  f6 := ⟨Tryd.f68.name, by decide, Tryd.func68.trans (congrArg some (by kernel_rfl))⟩
  f8 := ⟨Tryd.f57.name, by decide, Tryd.func57.trans (congrArg some (by kernel_rfl))⟩
  t0 := Tryd.underlying0
  a0 := Tryd.isAgg0
  z0 := Tryd.sizeOf0
  v0 := Tryd.zeroValue0
  t3 := Tryd.underlying3
  a3 := Tryd.isAgg3
  z3 := Tryd.sizeOf3
  v3 := Tryd.zeroValue3
  t4 := Tryd.underlying4
  a4 := Tryd.isAgg4
  z4 := Tryd.sizeOf4
  v4 := Tryd.zeroValue4
  t22 := Tryd.underlying86
  a22 := Tryd.isAgg86
  z22 := Tryd.sizeOf86
  v22 := Tryd.zeroValue86
  t25 := Tryd.underlying104
  a25 := Tryd.isAgg104
  z25 := Tryd.sizeOf104
  v25 := Tryd.zeroValue104 }
def Tryd.growRows_ren : Go.Shelf.Ren := ⟨fun | 4 => 56 | n => n, fun | 22 => 22 | 25 => 86 | 3 => 3 | 4 => 4 | 9 => 9 | 20 => 20 | 0 => 0 | n => n, fun | n => n⟩
theorem Tryd.growRows : Go.Proofs.Lays8.n4 Tryd.prog Tryd.growRows_ren := {
  mixed := by kernel_rfl
  f4 := ⟨Tryd.f56.name, by decide, Tryd.func56.trans (congrArg some (by kernel_rfl))⟩
  t0 := Tryd.underlying0
  a0 := Tryd.isAgg0
  z0 := Tryd.sizeOf0
  v0 := Tryd.zeroValue0
  t3 := Tryd.underlying3
  a3 := Tryd.isAgg3
  z3 := Tryd.sizeOf3
  v3 := Tryd.zeroValue3
  t4 := Tryd.underlying4
  a4 := Tryd.isAgg4
  z4 := Tryd.sizeOf4
  v4 := Tryd.zeroValue4
  t9 := Tryd.underlying9
  a9 := Tryd.isAgg9
  z9 := Tryd.sizeOf9
  v9 := Tryd.zeroValue9
  t20 := Tryd.underlying20
  a20 := Tryd.isAgg20
  z20 := Tryd.sizeOf20
  v20 := Tryd.zeroValue20
  t22 := Tryd.underlying22
  a22 := Tryd.isAgg22
  z22 := Tryd.sizeOf22
  v22 := Tryd.zeroValue22 }
end Go.Proofs
