/-
  slices.Sort of no element (after the kit's Derived/Sort/WalkANil).
-/
import Derived.Test.Qxb6616638aGreatFmtSuS
namespace Go.Proofs.Qxb6616638aGreatFmt
open Go.RowKit Go.Sort

theorem Su.insertionSort_nil (p : Option Addr) (cap : Nat) (w : World) :
    Calls Tryz.prog 61 #[.slice p 0 cap, .int .i64 0, .int .i64 0] w fun e w' => e = .returned (.tuple #[]) ∧ w' = w := by
  go_enter Tryz.func61, Tryz.ntmps61
  go_wp2
  refine wp_loop_rounds 1 ?_
  rw [rounds_succ]
  go_wp2
  go_end0
  exact ⟨rfl, rfl⟩

set_option maxRecDepth 100000 in
theorem Su.pdqsort_nil (p : Option Addr) (cap : Nat) (w : World) :
    Calls Tryz.prog 48 #[.slice p 0 cap, .int .i64 0, .int .i64 0, .int .i64 0] w fun e w' => e = .returned (.tuple #[]) ∧ w' = w := by
  go_enter Tryz.func48, Tryz.ntmps48
  go_wp2
  refine wp_loop_rounds 1 ?_
  rw [rounds_succ]
  go_wp2_with (first | (go_at_call 61; refine (Su.insertionSort_nil p cap _).mono ?_; rintro e w' ⟨rfl, rfl⟩))
  refine bodyPost_ret (results_none rfl _ _ _) rfl ?_
  exact ⟨rfl, rfl⟩

set_option maxRecDepth 100000 in
theorem Su.slices_Sort_nil (p : Option Addr) (cap : Nat) (w : World) :
    Calls Tryz.prog 34 #[.slice p 0 cap] w fun e w' => e = .returned (.tuple #[]) ∧ w' = w := by
  have hLen : ∀ w, Calls Tryz.prog 49 #[.int .u64 0] w fun e w' => e = .returned (.int .i64 0) ∧ w' = w := fun w => Su.bits_Len 0 w (by omega) (by omega)
  go_enter Tryz.func34, Tryz.ntmps34
  go_wp2_with (first
    | (go_at_call 49; refine (hLen _).mono ?_; rintro e w' ⟨rfl, rfl⟩)
    | (go_at_call 48; refine (Su.pdqsort_nil p cap _).mono ?_; rintro e w' ⟨rfl, rfl⟩))
  go_end0
  exact ⟨rfl, rfl⟩

end Go.Proofs.Qxb6616638aGreatFmt
