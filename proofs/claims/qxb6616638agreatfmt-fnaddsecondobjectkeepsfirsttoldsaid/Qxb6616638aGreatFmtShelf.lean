/-
  DERIVED: THE SHELF's CONTRACTS AT THIS DUMP, IN PLAIN WORDS (tools/lay-plain.mjs out of 'TryzShelf.lean', which tools/lay-shelf.mjs wrote): THE SAME DECLARATIONS UNDER THE SAME NAMES: 'import', 'namespace', 'open', 'def', 'theorem' AND NOTHING ELSE: no command of the shelf's: FOR A HAND-IN. Each laying: the table of numbers ('.._ren') and one theorem, a field a fact of the dump's own or the kernel's comparison; each contract: ONE APPLICATION.
-/
import Derived.Ground.SlsfProg
import Derived.Shelf.SlSortCmp.Whole1
import Derived.Shelf.SlSortCmp.NoneTotal
import Derived.Test.Qxb6616638aGreatFmtProg
namespace Go.Proofs
open Go.Shelf
def Tryz.laysSlF6_f50_ren : Go.Shelf.Ren := ⟨fun | 6 => 50 | 15 => 49 | 14 => 72 | 28 => 70 | 29 => 71 | 20 => 87 | 21 => 88 | 22 => 89 | 23 => 90 | 24 => 91 | 25 => 92 | 26 => 93 | 27 => 94 | 46 => 98 | 47 => 82 | 48 => 83 | 49 => 99 | 50 => 100 | 57 => 101 | n => n, fun | 22 => 35 | 24 => 36 | 25 => 106 | 3 => 3 | 39 => 89 | 0 => 0 | 53 => 92 | 55 => 36 | 4 => 4 | 46 => 119 | 45 => 118 | 50 => 124 | 5 => 5 | 9 => 9 | 66 => 135 | 70 => 139 | 76 => 152 | 77 => 153 | n => n, fun | n => n⟩
theorem Tryz.laysSlF6_f50 : Go.Proofs.SlLaysF.n6 Tryz.prog Tryz.laysSlF6_f50_ren := {
  mixed := by kernel_rfl
  f6 := ⟨Tryz.f50.name, by decide, Tryz.func50.trans (congrArg some (by kernel_rfl))⟩
  f14 := ⟨Tryz.f72.name, by decide, Tryz.func72.trans (congrArg some (by kernel_rfl))⟩
  f15 := Tryz.func49.trans (congrArg some (by kernel_rfl))
  f20 := ⟨Tryz.f87.name, by decide, Tryz.func87.trans (congrArg some (by kernel_rfl))⟩
  f21 := ⟨Tryz.f88.name, by decide, Tryz.func88.trans (congrArg some (by kernel_rfl))⟩
  f22 := ⟨Tryz.f89.name, by decide, Tryz.func89.trans (congrArg some (by kernel_rfl))⟩
  f23 := ⟨Tryz.f90.name, by decide, Tryz.func90.trans (congrArg some (by kernel_rfl))⟩
  f24 := ⟨Tryz.f91.name, by decide, Tryz.func91.trans (congrArg some (by kernel_rfl))⟩
  f25 := ⟨Tryz.f92.name, by decide, Tryz.func92.trans (congrArg some (by kernel_rfl))⟩
  f26 := ⟨Tryz.f93.name, by decide, Tryz.func93.trans (congrArg some (by kernel_rfl))⟩
  f27 := ⟨Tryz.f94.name, by decide, Tryz.func94.trans (congrArg some (by kernel_rfl))⟩
  f28 := Tryz.func70.trans (congrArg some (by kernel_rfl))
  f29 := Tryz.func71.trans (congrArg some (by kernel_rfl))
  f46 := ⟨Tryz.f98.name, by decide, Tryz.func98.trans (congrArg some (by kernel_rfl))⟩
  f47 := Tryz.func82.trans (congrArg some (by kernel_rfl))
  f48 := Tryz.func83.trans (congrArg some (by kernel_rfl))
  f49 := ⟨Tryz.f99.name, by decide, Tryz.func99.trans (congrArg some (by kernel_rfl))⟩
  f50 := ⟨Tryz.f100.name, by decide, Tryz.func100.trans (congrArg some (by kernel_rfl))⟩
  f57 := ⟨Tryz.f101.name, by decide, Tryz.func101.trans (congrArg some (by kernel_rfl))⟩
  t0 := Tryz.underlying0
  a0 := Tryz.isAgg0
  z0 := Tryz.sizeOf0
  v0 := Tryz.zeroValue0
  t3 := Tryz.underlying3
  a3 := Tryz.isAgg3
  z3 := Tryz.sizeOf3
  v3 := Tryz.zeroValue3
  t4 := Tryz.underlying4
  a4 := Tryz.isAgg4
  z4 := Tryz.sizeOf4
  v4 := Tryz.zeroValue4
  t5 := Tryz.underlying5
  a5 := Tryz.isAgg5
  z5 := Tryz.sizeOf5
  v5 := Tryz.zeroValue5
  t9 := Tryz.underlying9
  a9 := Tryz.isAgg9
  z9 := Tryz.sizeOf9
  v9 := Tryz.zeroValue9
  t22 := Tryz.underlying35
  a22 := Tryz.isAgg35
  z22 := Tryz.sizeOf35
  v22 := Tryz.zeroValue35
  a24 := Tryz.isAgg36
  z24 := Tryz.sizeOf36
  t25 := Tryz.underlying106
  a25 := Tryz.isAgg106
  z25 := Tryz.sizeOf106
  v25 := Tryz.zeroValue106
  t39 := Tryz.underlying89
  a39 := Tryz.isAgg89
  z39 := Tryz.sizeOf89
  v39 := Tryz.zeroValue89
  t45 := Tryz.underlying118
  a45 := Tryz.isAgg118
  z45 := Tryz.sizeOf118
  v45 := Tryz.zeroValue118
  t46 := Tryz.underlying119
  a46 := Tryz.isAgg119
  z46 := Tryz.sizeOf119
  v46 := Tryz.zeroValue119
  t50 := Tryz.underlying124
  a50 := Tryz.isAgg124
  z50 := Tryz.sizeOf124
  v50 := Tryz.zeroValue124
  t53 := Tryz.underlying92
  a53 := Tryz.isAgg92
  z53 := Tryz.sizeOf92
  v53 := Tryz.zeroValue92
  t55 := Tryz.underlying36
  a55 := Tryz.isAgg36
  z55 := Tryz.sizeOf36
  v55 := Tryz.zeroValue36
  t66 := Tryz.underlying135
  a66 := Tryz.isAgg135
  z66 := Tryz.sizeOf135
  v66 := Tryz.zeroValue135
  t70 := Tryz.underlying139
  a70 := Tryz.isAgg139
  z70 := Tryz.sizeOf139
  v70 := Tryz.zeroValue139
  t76 := Tryz.underlying152
  a76 := Tryz.isAgg152
  z76 := Tryz.sizeOf152
  v76 := Tryz.zeroValue152
  t77 := Tryz.underlying153
  a77 := Tryz.isAgg153
  z77 := Tryz.sizeOf153
  v77 := Tryz.zeroValue153 }
end Go.Proofs
