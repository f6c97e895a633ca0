/-
  DERIVED: THE SHELF's CONTRACTS AT THIS DUMP, IN PLAIN WORDS (tools/lay-plain.mjs out of 'TrydShelf2.lean', which tools/lay-shelf.mjs wrote): THE SAME DECLARATIONS UNDER THE SAME NAMES: 'import', 'namespace', 'open', 'def', 'theorem' AND NOTHING ELSE: no command of the shelf's: FOR A HAND-IN. Each laying: the table of numbers ('.._ren') and one theorem, a field a fact of the dump's own or the kernel's comparison; each contract: ONE APPLICATION.
-/
import Derived.Shelf.SlSortCmp.WholeK
import Derived.Ground.SlsfProg
import Derived.Shelf.SlicesQ.IndexFunc
import Derived.Ground.SlgfProg
import Derived.Shelf.Spec.SlicesGrow
import Derived.Ground.Names8Prog
import Derived.Test.YtligcgaakihnkaaDoorProg
namespace Go.Proofs
open Go.Shelf
def Tryd.sortPair_ren : Go.Shelf.Ren := ⟨fun | 6 => 32 | 15 => 45 | 14 => 44 | 28 => 59 | 29 => 60 | 20 => 51 | 21 => 52 | 22 => 53 | 23 => 54 | 24 => 55 | 25 => 56 | 26 => 57 | 27 => 58 | 46 => 64 | 47 => 65 | 48 => 66 | 49 => 67 | 50 => 68 | 57 => 70 | n => n, fun | 22 => 51 | 24 => 53 | 25 => 74 | 3 => 3 | 39 => 88 | 0 => 0 | 53 => 100 | 55 => 102 | 4 => 4 | 46 => 94 | 45 => 93 | 50 => 43 | 5 => 5 | 9 => 9 | 66 => 106 | 70 => 110 | 76 => 113 | 77 => 114 | n => n, fun | n => n⟩
theorem Tryd.sortPair : Go.Proofs.SlLaysF0.n6 Tryd.prog Tryd.sortPair_ren := {
  mixed := by kernel_rfl
  f6 := ⟨Tryd.f32.name, by decide, Tryd.func32.trans (congrArg some (by kernel_rfl))⟩
  f14 := ⟨Tryd.f44.name, by decide, Tryd.func44.trans (congrArg some (by kernel_rfl))⟩
  f15 := Tryd.func45.trans (congrArg some (by kernel_rfl))
  f20 := ⟨Tryd.f51.name, by decide, Tryd.func51.trans (congrArg some (by kernel_rfl))⟩
  f21 := ⟨Tryd.f52.name, by decide, Tryd.func52.trans (congrArg some (by kernel_rfl))⟩
  f22 := ⟨Tryd.f53.name, by decide, Tryd.func53.trans (congrArg some (by kernel_rfl))⟩
  f23 := ⟨Tryd.f54.name, by decide, Tryd.func54.trans (congrArg some (by kernel_rfl))⟩
  f24 := ⟨Tryd.f55.name, by decide, Tryd.func55.trans (congrArg some (by kernel_rfl))⟩
  f25 := ⟨Tryd.f56.name, by decide, Tryd.func56.trans (congrArg some (by kernel_rfl))⟩
  f26 := ⟨Tryd.f57.name, by decide, Tryd.func57.trans (congrArg some (by kernel_rfl))⟩
  f27 := ⟨Tryd.f58.name, by decide, Tryd.func58.trans (congrArg some (by kernel_rfl))⟩
  f28 := Tryd.func59.trans (congrArg some (by kernel_rfl))
  f29 := Tryd.func60.trans (congrArg some (by kernel_rfl))
  f46 := ⟨Tryd.f64.name, by decide, Tryd.func64.trans (congrArg some (by kernel_rfl))⟩
  f47 := Tryd.func65.trans (congrArg some (by kernel_rfl))
  f48 := Tryd.func66.trans (congrArg some (by kernel_rfl))
  f49 := ⟨Tryd.f67.name, by decide, Tryd.func67.trans (congrArg some (by kernel_rfl))⟩
  f50 := ⟨Tryd.f68.name, by decide, Tryd.func68.trans (congrArg some (by kernel_rfl))⟩
  f57 := ⟨Tryd.f70.name, by decide, Tryd.func70.trans (congrArg some (by kernel_rfl))⟩
  t0 := Tryd.underlying0
  a0 := Tryd.isAgg0
  z0 := Tryd.sizeOf0
  v0 := Tryd.zeroValue0
  t3 := Tryd.underlying3
  a3 := Tryd.isAgg3
  z3 := Tryd.sizeOf3
  v3 := Tryd.zeroValue3
  t4 := Tryd.underlying4
  a4 := Tryd.isAgg4
  z4 := Tryd.sizeOf4
  v4 := Tryd.zeroValue4
  t5 := Tryd.underlying5
  a5 := Tryd.isAgg5
  z5 := Tryd.sizeOf5
  v5 := Tryd.zeroValue5
  t9 := Tryd.underlying9
  a9 := Tryd.isAgg9
  z9 := Tryd.sizeOf9
  v9 := Tryd.zeroValue9
  t22 := Tryd.underlying51
  a22 := Tryd.isAgg51
  z22 := Tryd.sizeOf51
  v22 := Tryd.zeroValue51
  t25 := Tryd.underlying74
  a25 := Tryd.isAgg74
  z25 := Tryd.sizeOf74
  v25 := Tryd.zeroValue74
  t39 := Tryd.underlying88
  a39 := Tryd.isAgg88
  z39 := Tryd.sizeOf88
  v39 := Tryd.zeroValue88
  t45 := Tryd.underlying93
  a45 := Tryd.isAgg93
  z45 := Tryd.sizeOf93
  v45 := Tryd.zeroValue93
  t46 := Tryd.underlying94
  a46 := Tryd.isAgg94
  z46 := Tryd.sizeOf94
  v46 := Tryd.zeroValue94
  t50 := Tryd.underlying43
  a50 := Tryd.isAgg43
  z50 := Tryd.sizeOf43
  v50 := Tryd.zeroValue43
  t53 := Tryd.underlying100
  a53 := Tryd.isAgg100
  z53 := Tryd.sizeOf100
  v53 := Tryd.zeroValue100
  t55 := Tryd.underlying102
  a55 := Tryd.isAgg102
  z55 := Tryd.sizeOf102
  v55 := Tryd.zeroValue102
  t66 := Tryd.underlying106
  a66 := Tryd.isAgg106
  z66 := Tryd.sizeOf106
  v66 := Tryd.zeroValue106
  t70 := Tryd.underlying110
  a70 := Tryd.isAgg110
  z70 := Tryd.sizeOf110
  v70 := Tryd.zeroValue110
  t76 := Tryd.underlying113
  a76 := Tryd.isAgg113
  z76 := Tryd.sizeOf113
  v76 := Tryd.zeroValue113
  t77 := Tryd.underlying114
  a77 := Tryd.isAgg114
  z77 := Tryd.sizeOf114
  v77 := Tryd.zeroValue114 }
def Tryd.contRow_ren : Go.Shelf.Ren := ⟨fun | 8 => 41 | 6 => 50 | n => n, fun | 22 => 56 | 23 => 59 | 25 => 83 | 4 => 4 | 3 => 3 | 0 => 0 | n => n, fun | n => n⟩
theorem Tryd.contRow : Go.Proofs.SlLaysH0.n8 Tryd.prog Tryd.contRow_ren := {
  mixed := by kernel_rfl
  f6 := ⟨Tryd.f50.name, by decide, Tryd.func50.trans (congrArg some (by kernel_rfl))⟩
  f8 := ⟨Tryd.f41.name, by decide, Tryd.func41.trans (congrArg some (by kernel_rfl))⟩
  t0 := Tryd.underlying0
  a0 := Tryd.isAgg0
  z0 := Tryd.sizeOf0
  v0 := Tryd.zeroValue0
  t3 := Tryd.underlying3
  a3 := Tryd.isAgg3
  z3 := Tryd.sizeOf3
  v3 := Tryd.zeroValue3
  t4 := Tryd.underlying4
  a4 := Tryd.isAgg4
  z4 := Tryd.sizeOf4
  v4 := Tryd.zeroValue4
  t22 := Tryd.underlying56
  a22 := Tryd.isAgg56
  z22 := Tryd.sizeOf56
  v22 := Tryd.zeroValue56
  t25 := Tryd.underlying83
  a25 := Tryd.isAgg83
  z25 := Tryd.sizeOf83
  v25 := Tryd.zeroValue83 }
def Tryd.growRows_ren : Go.Shelf.Ren := ⟨fun | 4 => 43 | n => n, fun | 22 => 25 | 25 => 56 | 3 => 3 | 4 => 4 | 9 => 9 | 20 => 20 | 0 => 0 | n => n, fun | n => n⟩
theorem Tryd.growRows : Go.Proofs.Lays8.n4 Tryd.prog Tryd.growRows_ren := {
  mixed := by kernel_rfl
  f4 := ⟨Tryd.f43.name, by decide, Tryd.func43.trans (congrArg some (by kernel_rfl))⟩
  t0 := Tryd.underlying0
  a0 := Tryd.isAgg0
  z0 := Tryd.sizeOf0
  v0 := Tryd.zeroValue0
  t3 := Tryd.underlying3
  a3 := Tryd.isAgg3
  z3 := Tryd.sizeOf3
  v3 := Tryd.zeroValue3
  t4 := Tryd.underlying4
  a4 := Tryd.isAgg4
  z4 := Tryd.sizeOf4
  v4 := Tryd.zeroValue4
  t9 := Tryd.underlying9
  a9 := Tryd.isAgg9
  z9 := Tryd.sizeOf9
  v9 := Tryd.zeroValue9
  t20 := Tryd.underlying20
  a20 := Tryd.isAgg20
  z20 := Tryd.sizeOf20
  v20 := Tryd.zeroValue20
  t22 := Tryd.underlying25
  a22 := Tryd.isAgg25
  z22 := Tryd.sizeOf25
  v22 := Tryd.zeroValue25 }
end Go.Proofs
