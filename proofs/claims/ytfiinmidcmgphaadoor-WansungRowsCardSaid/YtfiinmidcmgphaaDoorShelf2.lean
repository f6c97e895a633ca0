/-
  DERIVED: THE SHELF's CONTRACTS AT THIS DUMP, IN PLAIN WORDS (tools/lay-plain.mjs out of 'TrydShelf2.lean', which tools/lay-shelf.mjs wrote): THE SAME DECLARATIONS UNDER THE SAME NAMES: 'import', 'namespace', 'open', 'def', 'theorem' AND NOTHING ELSE: no command of the shelf's: FOR A HAND-IN. Each laying: the table of numbers ('.._ren') and one theorem, a field a fact of the dump's own or the kernel's comparison; each contract: ONE APPLICATION.
-/
import Derived.Shelf.SlSortCmp.WholeK
import Derived.Ground.SlsfProg
import Derived.Shelf.SlicesQ.IndexFunc
import Derived.Ground.SlgfProg
import Derived.Test.YtfiinmidcmgphaaDoorProg
namespace Go.Proofs
open Go.Shelf
def Tryd.sortPair_ren : Go.Shelf.Ren := ⟨fun | 6 => 35 | 15 => 52 | 14 => 51 | 28 => 68 | 29 => 69 | 20 => 60 | 21 => 61 | 22 => 62 | 23 => 63 | 24 => 64 | 25 => 65 | 26 => 66 | 27 => 67 | 46 => 80 | 47 => 81 | 48 => 82 | 49 => 83 | 50 => 84 | 57 => 89 | n => n, fun | 22 => 38 | 24 => 41 | 25 => 57 | 3 => 3 | 39 => 54 | 0 => 0 | 53 => 42 | 55 => 77 | 4 => 4 | 46 => 94 | 45 => 93 | 50 => 46 | 5 => 5 | 9 => 9 | 66 => 114 | 70 => 118 | 76 => 121 | 77 => 122 | n => n, fun | n => n⟩
theorem Tryd.sortPair : Go.Proofs.SlLaysF0.n6 Tryd.prog Tryd.sortPair_ren := {
  mixed := by kernel_rfl
  f6 := ⟨Tryd.f35.name, by decide, Tryd.func35.trans (congrArg some (by kernel_rfl))⟩
  f14 := ⟨Tryd.f51.name, by decide, Tryd.func51.trans (congrArg some (by kernel_rfl))⟩
  f15 := Tryd.func52.trans (congrArg some (by kernel_rfl))
  f20 := ⟨Tryd.f60.name, by decide, Tryd.func60.trans (congrArg some (by kernel_rfl))⟩
  f21 := ⟨Tryd.f61.name, by decide, Tryd.func61.trans (congrArg some (by kernel_rfl))⟩
  f22 := ⟨Tryd.f62.name, by decide, Tryd.func62.trans (congrArg some (by kernel_rfl))⟩
  f23 := ⟨Tryd.f63.name, by decide, Tryd.func63.trans (congrArg some (by kernel_rfl))⟩
  f24 := ⟨Tryd.f64.name, by decide, Tryd.func64.trans (congrArg some (by kernel_rfl))⟩
  f25 := ⟨Tryd.f65.name, by decide, Tryd.func65.trans (congrArg some (by kernel_rfl))⟩
  f26 := ⟨Tryd.f66.name, by decide, Tryd.func66.trans (congrArg some (by kernel_rfl))⟩
  f27 := ⟨Tryd.f67.name, by decide, Tryd.func67.trans (congrArg some (by kernel_rfl))⟩
  f28 := Tryd.func68.trans (congrArg some (by kernel_rfl))
  f29 := Tryd.func69.trans (congrArg some (by kernel_rfl))
  f46 := ⟨Tryd.f80.name, by decide, Tryd.func80.trans (congrArg some (by kernel_rfl))⟩
  f47 := Tryd.func81.trans (congrArg some (by kernel_rfl))
  f48 := Tryd.func82.trans (congrArg some (by kernel_rfl))
  f49 := ⟨Tryd.f83.name, by decide, Tryd.func83.trans (congrArg some (by kernel_rfl))⟩
  f50 := ⟨Tryd.f84.name, by decide, Tryd.func84.trans (congrArg some (by kernel_rfl))⟩
  f57 := ⟨Tryd.f89.name, by decide, Tryd.func89.trans (congrArg some (by kernel_rfl))⟩
  t0 := Tryd.underlying0
  a0 := Tryd.isAgg0
  z0 := Tryd.sizeOf0
  v0 := Tryd.zeroValue0
  t3 := Tryd.underlying3
  a3 := Tryd.isAgg3
  z3 := Tryd.sizeOf3
  v3 := Tryd.zeroValue3
  t4 := Tryd.underlying4
  a4 := Tryd.isAgg4
  z4 := Tryd.sizeOf4
  v4 := Tryd.zeroValue4
  t5 := Tryd.underlying5
  a5 := Tryd.isAgg5
  z5 := Tryd.sizeOf5
  v5 := Tryd.zeroValue5
  t9 := Tryd.underlying9
  a9 := Tryd.isAgg9
  z9 := Tryd.sizeOf9
  v9 := Tryd.zeroValue9
  t22 := Tryd.underlying38
  a22 := Tryd.isAgg38
  z22 := Tryd.sizeOf38
  v22 := Tryd.zeroValue38
  t25 := Tryd.underlying57
  a25 := Tryd.isAgg57
  z25 := Tryd.sizeOf57
  v25 := Tryd.zeroValue57
  t39 := Tryd.underlying54
  a39 := Tryd.isAgg54
  z39 := Tryd.sizeOf54
  v39 := Tryd.zeroValue54
  t45 := Tryd.underlying93
  a45 := Tryd.isAgg93
  z45 := Tryd.sizeOf93
  v45 := Tryd.zeroValue93
  t46 := Tryd.underlying94
  a46 := Tryd.isAgg94
  z46 := Tryd.sizeOf94
  v46 := Tryd.zeroValue94
  t50 := Tryd.underlying46
  a50 := Tryd.isAgg46
  z50 := Tryd.sizeOf46
  v50 := Tryd.zeroValue46
  t53 := Tryd.underlying42
  a53 := Tryd.isAgg42
  z53 := Tryd.sizeOf42
  v53 := Tryd.zeroValue42
  t55 := Tryd.underlying77
  a55 := Tryd.isAgg77
  z55 := Tryd.sizeOf77
  v55 := Tryd.zeroValue77
  t66 := Tryd.underlying114
  a66 := Tryd.isAgg114
  z66 := Tryd.sizeOf114
  v66 := Tryd.zeroValue114
  t70 := Tryd.underlying118
  a70 := Tryd.isAgg118
  z70 := Tryd.sizeOf118
  v70 := Tryd.zeroValue118
  t76 := Tryd.underlying121
  a76 := Tryd.isAgg121
  z76 := Tryd.sizeOf121
  v76 := Tryd.zeroValue121
  t77 := Tryd.underlying122
  a77 := Tryd.isAgg122
  z77 := Tryd.sizeOf122
  v77 := Tryd.zeroValue122 }
def Tryd.contRow_ren : Go.Shelf.Ren := ⟨fun | 8 => 58 | 6 => 79 | n => n, fun | 22 => 70 | 23 => 73 | 25 => 91 | 4 => 4 | 3 => 3 | 0 => 0 | n => n, fun | n => n⟩
theorem Tryd.contRow : Go.Proofs.SlLaysH0.n8 Tryd.prog Tryd.contRow_ren := {
  mixed := by kernel_rfl
  f6 := ⟨Tryd.f79.name, by decide, Tryd.func79.trans (congrArg some (by kernel_rfl))⟩
  f8 := ⟨Tryd.f58.name, by decide, Tryd.func58.trans (congrArg some (by kernel_rfl))⟩
  t0 := Tryd.underlying0
  a0 := Tryd.isAgg0
  z0 := Tryd.sizeOf0
  v0 := Tryd.zeroValue0
  t3 := Tryd.underlying3
  a3 := Tryd.isAgg3
  z3 := Tryd.sizeOf3
  v3 := Tryd.zeroValue3
  t4 := Tryd.underlying4
  a4 := Tryd.isAgg4
  z4 := Tryd.sizeOf4
  v4 := Tryd.zeroValue4
  t22 := Tryd.underlying70
  a22 := Tryd.isAgg70
  z22 := Tryd.sizeOf70
  v22 := Tryd.zeroValue70
  t25 := Tryd.underlying91
  a25 := Tryd.isAgg91
  z25 := Tryd.sizeOf91
  v25 := Tryd.zeroValue91 }
end Go.Proofs
