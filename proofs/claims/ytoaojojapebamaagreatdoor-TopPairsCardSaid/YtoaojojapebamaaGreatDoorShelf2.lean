/-
  DERIVED: THE SHELF's CONTRACTS AT THIS DUMP, IN PLAIN WORDS (tools/lay-plain.mjs out of 'TryzShelf2.lean', which tools/lay-shelf.mjs wrote): THE SAME DECLARATIONS UNDER THE SAME NAMES: 'import', 'namespace', 'open', 'def', 'theorem' AND NOTHING ELSE: no command of the shelf's: FOR A HAND-IN. Each laying: the table of numbers ('.._ren') and one theorem, a field a fact of the dump's own or the kernel's comparison; each contract: ONE APPLICATION.
-/
import Derived.Shelf.SlSortCmp.WholeK
import Derived.Ground.SlsfProg
import Derived.Shelf.SlicesQ.IndexFunc
import Derived.Ground.SlgfProg
import Derived.Shelf.Spec.SlicesGrow
import Derived.Ground.Names8Prog
import Derived.Test.YtoaojojapebamaaGreatDoorProg
namespace Go.Proofs
open Go.Shelf
def Tryz.sortPair_ren : Go.Shelf.Ren := ⟨fun | 6 => 58 | 15 => 94 | 14 => 93 | 28 => 118 | 29 => 119 | 20 => 110 | 21 => 111 | 22 => 112 | 23 => 113 | 24 => 114 | 25 => 115 | 26 => 116 | 27 => 117 | 46 => 125 | 47 => 126 | 48 => 127 | 49 => 128 | 50 => 129 | 57 => 134 | n => n, fun | 22 => 30 | 24 => 34 | 25 => 92 | 3 => 3 | 39 => 36 | 0 => 0 | 53 => 126 | 55 => 78 | 4 => 4 | 46 => 146 | 45 => 145 | 50 => 75 | 5 => 5 | 9 => 9 | 66 => 159 | 70 => 163 | 76 => 168 | 77 => 169 | n => n, fun | n => n⟩
theorem Tryz.sortPair : Go.Proofs.SlLaysF0.n6 Tryz.prog Tryz.sortPair_ren := {
  mixed := by kernel_rfl
  f6 := ⟨Tryz.f58.name, by decide, Tryz.func58.trans (congrArg some (by kernel_rfl))⟩
  f14 := ⟨Tryz.f93.name, by decide, Tryz.func93.trans (congrArg some (by kernel_rfl))⟩
  f15 := Tryz.func94.trans (congrArg some (by kernel_rfl))
  f20 := ⟨Tryz.f110.name, by decide, Tryz.func110.trans (congrArg some (by kernel_rfl))⟩
  f21 := ⟨Tryz.f111.name, by decide, Tryz.func111.trans (congrArg some (by kernel_rfl))⟩
  f22 := ⟨Tryz.f112.name, by decide, Tryz.func112.trans (congrArg some (by kernel_rfl))⟩
  f23 := ⟨Tryz.f113.name, by decide, Tryz.func113.trans (congrArg some (by kernel_rfl))⟩
  f24 := ⟨Tryz.f114.name, by decide, Tryz.func114.trans (congrArg some (by kernel_rfl))⟩
  f25 := ⟨Tryz.f115.name, by decide, Tryz.func115.trans (congrArg some (by kernel_rfl))⟩
  f26 := ⟨Tryz.f116.name, by decide, Tryz.func116.trans (congrArg some (by kernel_rfl))⟩
  f27 := ⟨Tryz.f117.name, by decide, Tryz.func117.trans (congrArg some (by kernel_rfl))⟩
  f28 := Tryz.func118.trans (congrArg some (by kernel_rfl))
  f29 := Tryz.func119.trans (congrArg some (by kernel_rfl))
  f46 := ⟨Tryz.f125.name, by decide, Tryz.func125.trans (congrArg some (by kernel_rfl))⟩
  f47 := Tryz.func126.trans (congrArg some (by kernel_rfl))
  f48 := Tryz.func127.trans (congrArg some (by kernel_rfl))
  f49 := ⟨Tryz.f128.name, by decide, Tryz.func128.trans (congrArg some (by kernel_rfl))⟩
  f50 := ⟨Tryz.f129.name, by decide, Tryz.func129.trans (congrArg some (by kernel_rfl))⟩
  f57 := ⟨Tryz.f134.name, by decide, Tryz.func134.trans (congrArg some (by kernel_rfl))⟩
  t0 := Tryz.underlying0
  a0 := Tryz.isAgg0
  z0 := Tryz.sizeOf0
  v0 := Tryz.zeroValue0
  t3 := Tryz.underlying3
  a3 := Tryz.isAgg3
  z3 := Tryz.sizeOf3
  v3 := Tryz.zeroValue3
  t4 := Tryz.underlying4
  a4 := Tryz.isAgg4
  z4 := Tryz.sizeOf4
  v4 := Tryz.zeroValue4
  t5 := Tryz.underlying5
  a5 := Tryz.isAgg5
  z5 := Tryz.sizeOf5
  v5 := Tryz.zeroValue5
  t9 := Tryz.underlying9
  a9 := Tryz.isAgg9
  z9 := Tryz.sizeOf9
  v9 := Tryz.zeroValue9
  t22 := Tryz.underlying30
  a22 := Tryz.isAgg30
  z22 := Tryz.sizeOf30
  v22 := Tryz.zeroValue30
  t25 := Tryz.underlying92
  a25 := Tryz.isAgg92
  z25 := Tryz.sizeOf92
  v25 := Tryz.zeroValue92
  t39 := Tryz.underlying36
  a39 := Tryz.isAgg36
  z39 := Tryz.sizeOf36
  v39 := Tryz.zeroValue36
  t45 := Tryz.underlying145
  a45 := Tryz.isAgg145
  z45 := Tryz.sizeOf145
  v45 := Tryz.zeroValue145
  t46 := Tryz.underlying146
  a46 := Tryz.isAgg146
  z46 := Tryz.sizeOf146
  v46 := Tryz.zeroValue146
  t50 := Tryz.underlying75
  a50 := Tryz.isAgg75
  z50 := Tryz.sizeOf75
  v50 := Tryz.zeroValue75
  t53 := Tryz.underlying126
  a53 := Tryz.isAgg126
  z53 := Tryz.sizeOf126
  v53 := Tryz.zeroValue126
  t55 := Tryz.underlying78
  a55 := Tryz.isAgg78
  z55 := Tryz.sizeOf78
  v55 := Tryz.zeroValue78
  t66 := Tryz.underlying159
  a66 := Tryz.isAgg159
  z66 := Tryz.sizeOf159
  v66 := Tryz.zeroValue159
  t70 := Tryz.underlying163
  a70 := Tryz.isAgg163
  z70 := Tryz.sizeOf163
  v70 := Tryz.zeroValue163
  t76 := Tryz.underlying168
  a76 := Tryz.isAgg168
  z76 := Tryz.sizeOf168
  v76 := Tryz.zeroValue168
  t77 := Tryz.underlying169
  a77 := Tryz.isAgg169
  z77 := Tryz.sizeOf169
  v77 := Tryz.zeroValue169 }
def Tryz.contRow_ren : Go.Shelf.Ren := ⟨fun | 8 => 96 | 6 => 120 | n => n, fun | 22 => 94 | 23 => 96 | 25 => 125 | 4 => 4 | 3 => 3 | 0 => 0 | n => n, fun | n => n⟩
theorem Tryz.contRow : Go.Proofs.SlLaysH0.n8 Tryz.prog Tryz.contRow_ren := {
  mixed := by kernel_rfl
  f6 := ⟨Tryz.f120.name, by decide, Tryz.func120.trans (congrArg some (by kernel_rfl))⟩
  f8 := ⟨Tryz.f96.name, by decide, Tryz.func96.trans (congrArg some (by kernel_rfl))⟩
  t0 := Tryz.underlying0
  a0 := Tryz.isAgg0
  z0 := Tryz.sizeOf0
  v0 := Tryz.zeroValue0
  t3 := Tryz.underlying3
  a3 := Tryz.isAgg3
  z3 := Tryz.sizeOf3
  v3 := Tryz.zeroValue3
  t4 := Tryz.underlying4
  a4 := Tryz.isAgg4
  z4 := Tryz.sizeOf4
  v4 := Tryz.zeroValue4
  t22 := Tryz.underlying94
  a22 := Tryz.isAgg94
  z22 := Tryz.sizeOf94
  v22 := Tryz.zeroValue94
  t25 := Tryz.underlying125
  a25 := Tryz.isAgg125
  z25 := Tryz.sizeOf125
  v25 := Tryz.zeroValue125 }
def Tryz.growRows_ren : Go.Shelf.Ren := ⟨fun | 4 => 105 | n => n, fun | 22 => 41 | 25 => 94 | 3 => 3 | 4 => 4 | 9 => 9 | 20 => 20 | 0 => 0 | n => n, fun | n => n⟩
theorem Tryz.growRows : Go.Proofs.Lays8.n4 Tryz.prog Tryz.growRows_ren := {
  mixed := by kernel_rfl
  f4 := ⟨Tryz.f105.name, by decide, Tryz.func105.trans (congrArg some (by kernel_rfl))⟩
  t0 := Tryz.underlying0
  a0 := Tryz.isAgg0
  z0 := Tryz.sizeOf0
  v0 := Tryz.zeroValue0
  t3 := Tryz.underlying3
  a3 := Tryz.isAgg3
  z3 := Tryz.sizeOf3
  v3 := Tryz.zeroValue3
  t4 := Tryz.underlying4
  a4 := Tryz.isAgg4
  z4 := Tryz.sizeOf4
  v4 := Tryz.zeroValue4
  t9 := Tryz.underlying9
  a9 := Tryz.isAgg9
  z9 := Tryz.sizeOf9
  v9 := Tryz.zeroValue9
  t20 := Tryz.underlying20
  a20 := Tryz.isAgg20
  z20 := Tryz.sizeOf20
  v20 := Tryz.zeroValue20
  t22 := Tryz.underlying41
  a22 := Tryz.isAgg41
  z22 := Tryz.sizeOf41
  v22 := Tryz.zeroValue41 }
end Go.Proofs
