/-
  DERIVED: THE SHELF's CONTRACTS AT THIS DUMP, IN PLAIN WORDS (tools/lay-plain.mjs out of 'YbulkgeySLay0.lean', which tools/lay-shelf.mjs wrote): THE SAME DECLARATIONS UNDER THE SAME NAMES: 'import', 'namespace', 'open', 'def', 'theorem' AND NOTHING ELSE: no command of the shelf's: FOR A HAND-IN. Each laying: the table of numbers ('.._ren') and one theorem, a field a fact of the dump's own or the kernel's comparison; each contract: ONE APPLICATION.
-/
import Derived.Shelf.SlSortCmp.NoneTotal
import Derived.Ground.SlsfProg
import Derived.Test.YbulkgeyProg
namespace Go.Proofs
open Go.Shelf
def Yba.sortW_ren : Go.Shelf.Ren := ⟨fun | 6 => 22 | 15 => 35 | 14 => 34 | 28 => 56 | 29 => 57 | 20 => 48 | 21 => 49 | 22 => 50 | 23 => 51 | 24 => 52 | 25 => 53 | 26 => 54 | 27 => 55 | 46 => 68 | 47 => 69 | 48 => 70 | 49 => 71 | 50 => 72 | 57 => 79 | n => n, fun | 22 => 28 | 24 => 38 | 25 => 56 | 3 => 3 | 39 => 58 | 0 => 0 | 53 => 81 | 55 => 34 | 4 => 4 | 46 => 101 | 45 => 100 | 50 => 59 | 5 => 5 | 9 => 9 | 66 => 121 | 70 => 125 | 76 => 132 | 77 => 133 | n => n, fun | n => n⟩
theorem Yba.sortW : Go.Proofs.SlLaysF0.n6 Yba.prog Yba.sortW_ren := {
  mixed := by kernel_rfl
  f6 := ⟨Yba.f22.name, by decide, Yba.func22.trans (congrArg some (by kernel_rfl))⟩
  f14 := ⟨Yba.f34.name, by decide, Yba.func34.trans (congrArg some (by kernel_rfl))⟩
  f15 := Yba.func35.trans (congrArg some (by kernel_rfl))
  f20 := ⟨Yba.f48.name, by decide, Yba.func48.trans (congrArg some (by kernel_rfl))⟩
  f21 := ⟨Yba.f49.name, by decide, Yba.func49.trans (congrArg some (by kernel_rfl))⟩
  f22 := ⟨Yba.f50.name, by decide, Yba.func50.trans (congrArg some (by kernel_rfl))⟩
  f23 := ⟨Yba.f51.name, by decide, Yba.func51.trans (congrArg some (by kernel_rfl))⟩
  f24 := ⟨Yba.f52.name, by decide, Yba.func52.trans (congrArg some (by kernel_rfl))⟩
  f25 := ⟨Yba.f53.name, by decide, Yba.func53.trans (congrArg some (by kernel_rfl))⟩
  f26 := ⟨Yba.f54.name, by decide, Yba.func54.trans (congrArg some (by kernel_rfl))⟩
  f27 := ⟨Yba.f55.name, by decide, Yba.func55.trans (congrArg some (by kernel_rfl))⟩
  f28 := Yba.func56.trans (congrArg some (by kernel_rfl))
  f29 := Yba.func57.trans (congrArg some (by kernel_rfl))
  f46 := ⟨Yba.f68.name, by decide, Yba.func68.trans (congrArg some (by kernel_rfl))⟩
  f47 := Yba.func69.trans (congrArg some (by kernel_rfl))
  f48 := Yba.func70.trans (congrArg some (by kernel_rfl))
  f49 := ⟨Yba.f71.name, by decide, Yba.func71.trans (congrArg some (by kernel_rfl))⟩
  f50 := ⟨Yba.f72.name, by decide, Yba.func72.trans (congrArg some (by kernel_rfl))⟩
  f57 := ⟨Yba.f79.name, by decide, Yba.func79.trans (congrArg some (by kernel_rfl))⟩
  t0 := Yba.underlying0
  a0 := Yba.isAgg0
  z0 := Yba.sizeOf0
  v0 := Yba.zeroValue0
  t3 := Yba.underlying3
  a3 := Yba.isAgg3
  z3 := Yba.sizeOf3
  v3 := Yba.zeroValue3
  t4 := Yba.underlying4
  a4 := Yba.isAgg4
  z4 := Yba.sizeOf4
  v4 := Yba.zeroValue4
  t5 := Yba.underlying5
  a5 := Yba.isAgg5
  z5 := Yba.sizeOf5
  v5 := Yba.zeroValue5
  t9 := Yba.underlying9
  a9 := Yba.isAgg9
  z9 := Yba.sizeOf9
  v9 := Yba.zeroValue9
  t22 := Yba.underlying28
  a22 := Yba.isAgg28
  z22 := Yba.sizeOf28
  v22 := Yba.zeroValue28
  t25 := Yba.underlying56
  a25 := Yba.isAgg56
  z25 := Yba.sizeOf56
  v25 := Yba.zeroValue56
  t39 := Yba.underlying58
  a39 := Yba.isAgg58
  z39 := Yba.sizeOf58
  v39 := Yba.zeroValue58
  t45 := Yba.underlying100
  a45 := Yba.isAgg100
  z45 := Yba.sizeOf100
  v45 := Yba.zeroValue100
  t46 := Yba.underlying101
  a46 := Yba.isAgg101
  z46 := Yba.sizeOf101
  v46 := Yba.zeroValue101
  t50 := Yba.underlying59
  a50 := Yba.isAgg59
  z50 := Yba.sizeOf59
  v50 := Yba.zeroValue59
  t53 := Yba.underlying81
  a53 := Yba.isAgg81
  z53 := Yba.sizeOf81
  v53 := Yba.zeroValue81
  t55 := Yba.underlying34
  a55 := Yba.isAgg34
  z55 := Yba.sizeOf34
  v55 := Yba.zeroValue34
  t66 := Yba.underlying121
  a66 := Yba.isAgg121
  z66 := Yba.sizeOf121
  v66 := Yba.zeroValue121
  t70 := Yba.underlying125
  a70 := Yba.isAgg125
  z70 := Yba.sizeOf125
  v70 := Yba.zeroValue125
  t76 := Yba.underlying132
  a76 := Yba.isAgg132
  z76 := Yba.sizeOf132
  v76 := Yba.zeroValue132
  t77 := Yba.underlying133
  a77 := Yba.isAgg133
  z77 := Yba.sizeOf133
  v77 := Yba.zeroValue133 }
end Go.Proofs
