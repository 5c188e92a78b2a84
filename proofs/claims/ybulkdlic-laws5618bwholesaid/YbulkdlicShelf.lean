/-
  DERIVED: THE SHELF's CONTRACTS AT THIS DUMP, IN PLAIN WORDS (tools/lay-plain.mjs out of 'YbulkdlicShelf.lean', which tools/lay-shelf.mjs wrote): THE SAME DECLARATIONS UNDER THE SAME NAMES: 'import', 'namespace', 'open', 'def', 'theorem' AND NOTHING ELSE: no command of the shelf's: FOR A HAND-IN. Each laying: the table of numbers ('.._ren') and one theorem, a field a fact of the dump's own or the kernel's comparison; each contract: ONE APPLICATION.
-/
import Derived.Shelf.SlGeneric
import Derived.Shelf.SlSortCmp.Whole1
import Derived.Ground.SlsfProg
import Derived.Test.YbulkdlicProg
namespace Go.Proofs
open Go.Shelf
def Yba.lays22_ren : Go.Shelf.Ren := ⟨fun | 6 => 22 | 15 => 36 | 14 => 35 | 28 => 54 | 29 => 55 | 20 => 46 | 21 => 47 | 22 => 48 | 23 => 49 | 24 => 50 | 25 => 51 | 26 => 52 | 27 => 53 | 46 => 62 | 47 => 63 | 48 => 64 | 49 => 65 | 50 => 66 | 57 => 69 | n => n, fun | 22 => 48 | 24 => 40 | 25 => 77 | 3 => 3 | 39 => 93 | 0 => 0 | 53 => 108 | 55 => 22 | 4 => 4 | 46 => 102 | 45 => 101 | 50 => 81 | 5 => 5 | 9 => 9 | 66 => 114 | 70 => 118 | 76 => 120 | 77 => 121 | n => n, fun | n => n⟩
theorem Yba.lays22 : Go.Proofs.SlLaysF.n6 Yba.prog Yba.lays22_ren := {
  mixed := by kernel_rfl
  f6 := ⟨Yba.f22.name, by decide, Yba.func22.trans (congrArg some (by kernel_rfl))⟩
  f14 := ⟨Yba.f35.name, by decide, Yba.func35.trans (congrArg some (by kernel_rfl))⟩
  f15 := Yba.func36.trans (congrArg some (by kernel_rfl))
  f20 := ⟨Yba.f46.name, by decide, Yba.func46.trans (congrArg some (by kernel_rfl))⟩
  f21 := ⟨Yba.f47.name, by decide, Yba.func47.trans (congrArg some (by kernel_rfl))⟩
  f22 := ⟨Yba.f48.name, by decide, Yba.func48.trans (congrArg some (by kernel_rfl))⟩
  f23 := ⟨Yba.f49.name, by decide, Yba.func49.trans (congrArg some (by kernel_rfl))⟩
  f24 := ⟨Yba.f50.name, by decide, Yba.func50.trans (congrArg some (by kernel_rfl))⟩
  f25 := ⟨Yba.f51.name, by decide, Yba.func51.trans (congrArg some (by kernel_rfl))⟩
  f26 := ⟨Yba.f52.name, by decide, Yba.func52.trans (congrArg some (by kernel_rfl))⟩
  f27 := ⟨Yba.f53.name, by decide, Yba.func53.trans (congrArg some (by kernel_rfl))⟩
  f28 := Yba.func54.trans (congrArg some (by kernel_rfl))
  f29 := Yba.func55.trans (congrArg some (by kernel_rfl))
  f46 := ⟨Yba.f62.name, by decide, Yba.func62.trans (congrArg some (by kernel_rfl))⟩
  f47 := Yba.func63.trans (congrArg some (by kernel_rfl))
  f48 := Yba.func64.trans (congrArg some (by kernel_rfl))
  f49 := ⟨Yba.f65.name, by decide, Yba.func65.trans (congrArg some (by kernel_rfl))⟩
  f50 := ⟨Yba.f66.name, by decide, Yba.func66.trans (congrArg some (by kernel_rfl))⟩
  f57 := ⟨Yba.f69.name, by decide, Yba.func69.trans (congrArg some (by kernel_rfl))⟩
  t0 := Yba.underlying0
  a0 := Yba.isAgg0
  z0 := Yba.sizeOf0
  v0 := Yba.zeroValue0
  t3 := Yba.underlying3
  a3 := Yba.isAgg3
  z3 := Yba.sizeOf3
  v3 := Yba.zeroValue3
  t4 := Yba.underlying4
  a4 := Yba.isAgg4
  z4 := Yba.sizeOf4
  v4 := Yba.zeroValue4
  t5 := Yba.underlying5
  a5 := Yba.isAgg5
  z5 := Yba.sizeOf5
  v5 := Yba.zeroValue5
  t9 := Yba.underlying9
  a9 := Yba.isAgg9
  z9 := Yba.sizeOf9
  v9 := Yba.zeroValue9
  t22 := Yba.underlying48
  a22 := Yba.isAgg48
  z22 := Yba.sizeOf48
  v22 := Yba.zeroValue48
  a24 := Yba.isAgg40
  z24 := Yba.sizeOf40
  t25 := Yba.underlying77
  a25 := Yba.isAgg77
  z25 := Yba.sizeOf77
  v25 := Yba.zeroValue77
  t39 := Yba.underlying93
  a39 := Yba.isAgg93
  z39 := Yba.sizeOf93
  v39 := Yba.zeroValue93
  t45 := Yba.underlying101
  a45 := Yba.isAgg101
  z45 := Yba.sizeOf101
  v45 := Yba.zeroValue101
  t46 := Yba.underlying102
  a46 := Yba.isAgg102
  z46 := Yba.sizeOf102
  v46 := Yba.zeroValue102
  t50 := Yba.underlying81
  a50 := Yba.isAgg81
  z50 := Yba.sizeOf81
  v50 := Yba.zeroValue81
  t53 := Yba.underlying108
  a53 := Yba.isAgg108
  z53 := Yba.sizeOf108
  v53 := Yba.zeroValue108
  t55 := Yba.underlying22
  a55 := Yba.isAgg22
  z55 := Yba.sizeOf22
  v55 := Yba.zeroValue22
  t66 := Yba.underlying114
  a66 := Yba.isAgg114
  z66 := Yba.sizeOf114
  v66 := Yba.zeroValue114
  t70 := Yba.underlying118
  a70 := Yba.isAgg118
  z70 := Yba.sizeOf118
  v70 := Yba.zeroValue118
  t76 := Yba.underlying120
  a76 := Yba.isAgg120
  z76 := Yba.sizeOf120
  v76 := Yba.zeroValue120
  t77 := Yba.underlying121
  a77 := Yba.isAgg121
  z77 := Yba.sizeOf121
  v77 := Yba.zeroValue121 }
end Go.Proofs
