/-
  DERIVED: THE SHELF's CONTRACTS AT THIS DUMP, IN PLAIN WORDS (tools/lay-plain.mjs out of 'TryzShelf.lean', which tools/lay-shelf.mjs wrote): THE SAME DECLARATIONS UNDER THE SAME NAMES: 'import', 'namespace', 'open', 'def', 'theorem' AND NOTHING ELSE: no command of the shelf's: FOR A HAND-IN. Each laying: the table of numbers ('.._ren') and one theorem, a field a fact of the dump's own or the kernel's comparison; each contract: ONE APPLICATION.
-/
import Derived.Ground.Names8Prog
import Derived.Shelf.Spec.SlicesGrow
import Derived.Test.Qxb6616638aGreatFmtProg
namespace Go.Proofs
open Go.Shelf
def Tryz.lays84_f40_ren : Go.Shelf.Ren := ⟨fun | 4 => 40 | n => n, fun | 22 => 34 | 25 => 78 | 3 => 3 | 4 => 4 | 9 => 9 | 20 => 20 | 0 => 0 | n => n, fun | n => n⟩
theorem Tryz.lays84_f40 : Go.Proofs.Lays8.n4 Tryz.prog Tryz.lays84_f40_ren := {
  mixed := by kernel_rfl
  f4 := ⟨Tryz.f40.name, by decide, Tryz.func40.trans (congrArg some (by kernel_rfl))⟩
  t0 := Tryz.underlying0
  a0 := Tryz.isAgg0
  z0 := Tryz.sizeOf0
  v0 := Tryz.zeroValue0
  t3 := Tryz.underlying3
  a3 := Tryz.isAgg3
  z3 := Tryz.sizeOf3
  v3 := Tryz.zeroValue3
  t4 := Tryz.underlying4
  a4 := Tryz.isAgg4
  z4 := Tryz.sizeOf4
  v4 := Tryz.zeroValue4
  t9 := Tryz.underlying9
  a9 := Tryz.isAgg9
  z9 := Tryz.sizeOf9
  v9 := Tryz.zeroValue9
  t20 := Tryz.underlying20
  a20 := Tryz.isAgg20
  z20 := Tryz.sizeOf20
  v20 := Tryz.zeroValue20
  t22 := Tryz.underlying34
  a22 := Tryz.isAgg34
  z22 := Tryz.sizeOf34
  v22 := Tryz.zeroValue34 }
def Tryz.lays84_f41_ren : Go.Shelf.Ren := ⟨fun | 4 => 41 | n => n, fun | 22 => 35 | 25 => 36 | 3 => 3 | 4 => 4 | 9 => 9 | 20 => 20 | 0 => 0 | n => n, fun | n => n⟩
theorem Tryz.lays84_f41 : Go.Proofs.Lays8.n4 Tryz.prog Tryz.lays84_f41_ren := {
  mixed := by kernel_rfl
  f4 := ⟨Tryz.f41.name, by decide, Tryz.func41.trans (congrArg some (by kernel_rfl))⟩
  t0 := Tryz.underlying0
  a0 := Tryz.isAgg0
  z0 := Tryz.sizeOf0
  v0 := Tryz.zeroValue0
  t3 := Tryz.underlying3
  a3 := Tryz.isAgg3
  z3 := Tryz.sizeOf3
  v3 := Tryz.zeroValue3
  t4 := Tryz.underlying4
  a4 := Tryz.isAgg4
  z4 := Tryz.sizeOf4
  v4 := Tryz.zeroValue4
  t9 := Tryz.underlying9
  a9 := Tryz.isAgg9
  z9 := Tryz.sizeOf9
  v9 := Tryz.zeroValue9
  t20 := Tryz.underlying20
  a20 := Tryz.isAgg20
  z20 := Tryz.sizeOf20
  v20 := Tryz.zeroValue20
  t22 := Tryz.underlying35
  a22 := Tryz.isAgg35
  z22 := Tryz.sizeOf35
  v22 := Tryz.zeroValue35 }
end Go.Proofs
