/-
  slices.Sort at []uint64 over this program, assembled.
-/
import Derived.Sort.AssemblyPlain
import Derived.Test.Qxb6616638aGreatFmtSuA
import Derived.Test.Qxb6616638aGreatFmtSuA6
import Derived.Test.Qxb6616638aGreatFmtSuB3
import Derived.Test.Qxb6616638aGreatFmtSuC
import Derived.Test.Qxb6616638aGreatFmtSuC4
import Derived.Test.Qxb6616638aGreatFmtSuL
import Derived.Test.Qxb6616638aGreatFmtSu7
import Derived.Test.Qxb6616638aGreatFmtSu11
import Derived.Test.Qxb6616638aGreatFmtSu13
namespace Go.Proofs.Qxb6616638aGreatFmt
open Go.Sort

theorem Su.callees13 : Callees13U where
  ins := Su.insertionSort_int
  brk := Su.breakPatterns_int
  piv := Su.choosePivot_int
  par := Su.partialInsertionSort_int
  peq := Su.partitionEqualOrdered_int
  prt := Su.partitionOrdered_int

theorem Su.plain13 : Plain13 where
  swo := swo_ltInt
  ins := insertionSort_holds
  par := partialInsertionSort_holds
  prt := partition_holds _
  peq := partitionEqual_holds _
  pdq := pdq_sorts _

theorem Su.pdqWalk : pdqWalk_u := fun blk off cap a b limit d w hH hb hab hbd hsz hl hB =>
  Su.pdqsort_int Su.callees13 Su.plain13 (b - a + 1) blk off cap a b limit d w (by omega) hH hb hab hbd hsz hl hB

theorem Su.sort_eq (zs : List Int) : Sort.sort ltInt zs.toArray = (zs.mergeSort fun x y => decide (x ≤ y)).toArray := by
  rw [← sortInt zs]

theorem Su.slices_Sort (blk off cap : Nat) (zs : List Int) (w : World) (hH : Holds (Value.int .u64) w blk off zs.toArray) (hblk : blk < w.heap.size) (hsz : zs.length < 4611686018427387904) :
    Calls Tryz.prog 34 #[.slice (some ⟨blk, off, none⟩) zs.length cap] w fun e w' =>
      e = .returned (.tuple #[]) ∧ ∃ n os, w' = grow (putRow (Value.int .u64) (Sort.ahead w n) blk off (zs.mergeSort fun x y => decide (x ≤ y)).toArray) os := by
  have h := Su.Sort_int Su.pdqWalk blk off cap zs.toArray w hH hblk (by simpa using hsz)
  rw [Su.sort_eq] at h
  simpa using h

end Go.Proofs.Qxb6616638aGreatFmt
