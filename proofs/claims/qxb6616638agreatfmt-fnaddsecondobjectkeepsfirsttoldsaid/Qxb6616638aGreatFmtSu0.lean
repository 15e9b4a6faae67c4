/-
  slices.Sort at []uint64 over this program: walk texts turned from the kit's worked sort at []int.
-/
import Derived.Test.Qxb6616638aGreatFmtProg
import Derived.Sort.Walk0
import Derived.Lib.Walk
import Derived.Sort.Row
import Derived.RowKit
namespace Go.Proofs.Qxb6616638aGreatFmt
open Go.RowKit Go.Sort
set_option linter.unusedVariables false
set_option maxRecDepth 100000

set_option maxHeartbeats 1000000 in
theorem Su.cmp_isNaN_int (x : Int) (w : World) : Calls Tryz.prog 86 #[.int .u64 x] w fun e w' => e = .returned (.bool false) ∧ w' = w := by
  go_enter Tryz.func86, Tryz.ntmps86
  go_wp2
  go_ret
  exact ⟨by simp, rfl⟩

set_option maxHeartbeats 1000000 in
theorem Su.cmp_Less_int (x y : Int) (w : World) : Calls Tryz.prog 67 #[.int .u64 x, .int .u64 y] w fun e w' => e = .returned (.bool (Sort.ltInt x y)) ∧ w' = w := by
  go_enter Tryz.func67, Tryz.ntmps67
  go_wp2_with (go_at_call 86; refine (Su.cmp_isNaN_int _ _).mono ?_; rintro e w' ⟨rfl, rfl⟩)
  go_ret
  exact ⟨rfl, rfl⟩

end Go.Proofs.Qxb6616638aGreatFmt
