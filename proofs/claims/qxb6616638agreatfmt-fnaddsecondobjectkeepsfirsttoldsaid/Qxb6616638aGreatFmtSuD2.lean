/-
  slices.Sort at []uint64 over this program: walk texts turned from the kit's worked sort at []int.
-/
import Derived.Test.Qxb6616638aGreatFmtSuD1
import Derived.Sort.WalkD2
namespace Go.Proofs.Qxb6616638aGreatFmt
open Go.RowKit Go.Sort
set_option linter.unusedVariables false
set_option maxRecDepth 100000

set_option maxHeartbeats 1000000 in
set_option maxRecDepth 100000 in
theorem Su.medianAdjacent_int (d : Array Int) (len : Nat) (hlen : d.size = len) (blk off cap a sb so s : Nat) (w : World) (hH : Holds (Value.int .u64) w blk off d) (ha0 : 1 ≤ a) (ha : a + 1 < d.size) (hsz : d.size < 2 ^ 62) (hne : sb ≠ blk)
    (hS : Holds (Value.int .i64) w sb so (one s)) (hs : s + 3 < 2 ^ 62) :
    Calls Tryz.prog 84 #[.slice (some ⟨blk, off, none⟩) len cap, .int .i64 a, .pointer (some ⟨sb, so, none⟩)] w fun e w' =>
      e = .returned (.int .i64 (medianAdjacent ltInt d a s).1) ∧ ∃ n, w' = putRow (Value.int .i64) (Sort.ahead w n) sb so (one (medianAdjacent ltInt d a s).2) := by
  subst hlen
  replace hsz : d.size < 4611686018427387904 := by omega
  go_enter Tryz.func84, Tryz.ntmps84
  go_wp2_with (go_at_call 85; rw [show ((a : Int) - 1) = ((a - 1 : Nat) : Int) by omega, show ((a : Int) + 1) = ((a + 1 : Nat) : Int) by omega]; refine (Su.median_int d _ rfl blk off cap (a - 1) a (a + 1) sb so s w hH (by omega) (by omega) ha hne hS hs).mono ?_; rintro e w' ⟨rfl, n1, rfl⟩)
  go_ret
  exact ⟨rfl, n1, rfl⟩

end Go.Proofs.Qxb6616638aGreatFmt
