/-
  DERIVED: THE SHELF's CONTRACTS AT THIS DUMP, IN PLAIN WORDS (tools/lay-plain.mjs out of 'TrydShelf2.lean', which tools/lay-shelf.mjs wrote): THE SAME DECLARATIONS UNDER THE SAME NAMES: 'import', 'namespace', 'open', 'def', 'theorem' AND NOTHING ELSE: no command of the shelf's: FOR A HAND-IN. Each laying: the table of numbers ('.._ren') and one theorem, a field a fact of the dump's own or the kernel's comparison; each contract: ONE APPLICATION.
-/
import Derived.Shelf.SlSortCmp.WholeK
import Derived.Ground.SlsfProg
import Derived.Shelf.SlicesQ.IndexFunc
import Derived.Ground.SlgfProg
import Derived.Test.YtdbpliheggbmdaaDoorProg
namespace Go.Proofs
open Go.Shelf
def Tryd.sortPair_ren : Go.Shelf.Ren := ⟨fun | 6 => 44 | 15 => 53 | 14 => 52 | 28 => 66 | 29 => 67 | 20 => 58 | 21 => 59 | 22 => 60 | 23 => 61 | 24 => 62 | 25 => 63 | 26 => 64 | 27 => 65 | 46 => 69 | 47 => 70 | 48 => 71 | 49 => 72 | 50 => 73 | 57 => 75 | n => n, fun | 22 => 37 | 24 => 41 | 25 => 89 | 3 => 3 | 39 => 49 | 0 => 0 | 53 => 90 | 55 => 84 | 4 => 4 | 46 => 103 | 45 => 102 | 50 => 42 | 5 => 5 | 9 => 9 | 66 => 110 | 70 => 114 | 76 => 117 | 77 => 33 | n => n, fun | n => n⟩
theorem Tryd.sortPair : Go.Proofs.SlLaysF0.n6 Tryd.prog Tryd.sortPair_ren := {
  mixed := by kernel_rfl
  f6 := ⟨Tryd.f44.name, by decide, Tryd.func44.trans (congrArg some (by kernel_rfl))⟩
  f14 := ⟨Tryd.f52.name, by decide, Tryd.func52.trans (congrArg some (by kernel_rfl))⟩
  f15 := Tryd.func53.trans (congrArg some (by kernel_rfl))
  f20 := ⟨Tryd.f58.name, by decide, Tryd.func58.trans (congrArg some (by kernel_rfl))⟩
  f21 := ⟨Tryd.f59.name, by decide, Tryd.func59.trans (congrArg some (by kernel_rfl))⟩
  f22 := ⟨Tryd.f60.name, by decide, Tryd.func60.trans (congrArg some (by kernel_rfl))⟩
  f23 := ⟨Tryd.f61.name, by decide, Tryd.func61.trans (congrArg some (by kernel_rfl))⟩
  f24 := ⟨Tryd.f62.name, by decide, Tryd.func62.trans (congrArg some (by kernel_rfl))⟩
  f25 := ⟨Tryd.f63.name, by decide, Tryd.func63.trans (congrArg some (by kernel_rfl))⟩
  f26 := ⟨Tryd.f64.name, by decide, Tryd.func64.trans (congrArg some (by kernel_rfl))⟩
  f27 := ⟨Tryd.f65.name, by decide, Tryd.func65.trans (congrArg some (by kernel_rfl))⟩
  f28 := Tryd.func66.trans (congrArg some (by kernel_rfl))
  f29 := Tryd.func67.trans (congrArg some (by kernel_rfl))
  f46 := ⟨Tryd.f69.name, by decide, Tryd.func69.trans (congrArg some (by kernel_rfl))⟩
  f47 := Tryd.func70.trans (congrArg some (by kernel_rfl))
  f48 := Tryd.func71.trans (congrArg some (by kernel_rfl))
  f49 := ⟨Tryd.f72.name, by decide, Tryd.func72.trans (congrArg some (by kernel_rfl))⟩
  f50 := ⟨Tryd.f73.name, by decide, Tryd.func73.trans (congrArg some (by kernel_rfl))⟩
  f57 := ⟨Tryd.f75.name, by decide, Tryd.func75.trans (congrArg some (by kernel_rfl))⟩
  t0 := Tryd.underlying0
  a0 := Tryd.isAgg0
  z0 := Tryd.sizeOf0
  v0 := Tryd.zeroValue0
  t3 := Tryd.underlying3
  a3 := Tryd.isAgg3
  z3 := Tryd.sizeOf3
  v3 := Tryd.zeroValue3
  t4 := Tryd.underlying4
  a4 := Tryd.isAgg4
  z4 := Tryd.sizeOf4
  v4 := Tryd.zeroValue4
  t5 := Tryd.underlying5
  a5 := Tryd.isAgg5
  z5 := Tryd.sizeOf5
  v5 := Tryd.zeroValue5
  t9 := Tryd.underlying9
  a9 := Tryd.isAgg9
  z9 := Tryd.sizeOf9
  v9 := Tryd.zeroValue9
  t22 := Tryd.underlying37
  a22 := Tryd.isAgg37
  z22 := Tryd.sizeOf37
  v22 := Tryd.zeroValue37
  t25 := Tryd.underlying89
  a25 := Tryd.isAgg89
  z25 := Tryd.sizeOf89
  v25 := Tryd.zeroValue89
  t39 := Tryd.underlying49
  a39 := Tryd.isAgg49
  z39 := Tryd.sizeOf49
  v39 := Tryd.zeroValue49
  t45 := Tryd.underlying102
  a45 := Tryd.isAgg102
  z45 := Tryd.sizeOf102
  v45 := Tryd.zeroValue102
  t46 := Tryd.underlying103
  a46 := Tryd.isAgg103
  z46 := Tryd.sizeOf103
  v46 := Tryd.zeroValue103
  t50 := Tryd.underlying42
  a50 := Tryd.isAgg42
  z50 := Tryd.sizeOf42
  v50 := Tryd.zeroValue42
  t53 := Tryd.underlying90
  a53 := Tryd.isAgg90
  z53 := Tryd.sizeOf90
  v53 := Tryd.zeroValue90
  t55 := Tryd.underlying84
  a55 := Tryd.isAgg84
  z55 := Tryd.sizeOf84
  v55 := Tryd.zeroValue84
  t66 := Tryd.underlying110
  a66 := Tryd.isAgg110
  z66 := Tryd.sizeOf110
  v66 := Tryd.zeroValue110
  t70 := Tryd.underlying114
  a70 := Tryd.isAgg114
  z70 := Tryd.sizeOf114
  v70 := Tryd.zeroValue114
  t76 := Tryd.underlying117
  a76 := Tryd.isAgg117
  z76 := Tryd.sizeOf117
  v76 := Tryd.zeroValue117
  t77 := Tryd.underlying33
  a77 := Tryd.isAgg33
  z77 := Tryd.sizeOf33
  v77 := Tryd.zeroValue33 }
def Tryd.contRow_ren : Go.Shelf.Ren := ⟨fun | 8 => 50 | 6 => 57 | n => n, fun | 22 => 78 | 23 => 80 | 25 => 95 | 4 => 4 | 3 => 3 | 0 => 0 | n => n, fun | n => n⟩
theorem Tryd.contRow : Go.Proofs.SlLaysH0.n8 Tryd.prog Tryd.contRow_ren := {
  mixed := by kernel_rfl
  f6 := ⟨Tryd.f57.name, by decide, Tryd.func57.trans (congrArg some (by kernel_rfl))⟩
  f8 := ⟨Tryd.f50.name, by decide, Tryd.func50.trans (congrArg some (by kernel_rfl))⟩
  t0 := Tryd.underlying0
  a0 := Tryd.isAgg0
  z0 := Tryd.sizeOf0
  v0 := Tryd.zeroValue0
  t3 := Tryd.underlying3
  a3 := Tryd.isAgg3
  z3 := Tryd.sizeOf3
  v3 := Tryd.zeroValue3
  t4 := Tryd.underlying4
  a4 := Tryd.isAgg4
  z4 := Tryd.sizeOf4
  v4 := Tryd.zeroValue4
  t22 := Tryd.underlying78
  a22 := Tryd.isAgg78
  z22 := Tryd.sizeOf78
  v22 := Tryd.zeroValue78
  t25 := Tryd.underlying95
  a25 := Tryd.isAgg95
  z25 := Tryd.sizeOf95
  v25 := Tryd.zeroValue95 }
end Go.Proofs
