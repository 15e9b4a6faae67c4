/-
  zzBuild of a nil slice; the law's bound on its argument; ZZNamesAdd.
-/
import Derived.Test.Qxb6616638aGreatFmtZbuild
namespace Go.Proofs.Qxb6616638aGreatFmt
open Go.RowKit
open Plain
set_option linter.unusedVariables false
set_option maxRecDepth 100000

variable {w : World}

theorem skip_nil (w : World) : Calls Tryz.prog 19 #[.slice none 0 0, .int .i64 0] w fun e w' => e = .returned (.int .i64 0) ∧ w' = w := by
  go_enter Tryz.func19, Tryz.ntmps19
  go_wp2
  go_loopw [1] (fun v1 wr => v1 = .int .i64 0 ∧ wr = w) (fun _ _ => 0)
  case atStart => exact ⟨rfl, rfl⟩
  case round =>
    obtain ⟨rfl, rfl⟩ := hrel
    go_wp2
    go_ret
    exact ⟨rfl, rfl⟩

theorem value_nil (w : World) (T : Value) : Calls Tryz.prog 18 #[T, .slice none 0 0, .int .i64 0, .int .i64 (-1)] w fun e w' => e = .returned (.int .i64 (-1)) ∧ w' = w := by
  go_enter Tryz.func18, Tryz.ntmps18
  go_wp2
  go_ret
  exact ⟨rfl, rfl⟩

theorem zzBuild_nil (w : World) : Calls Tryz.prog 6 #[.slice none 0 0] w fun e w' => (∃ v : Nat → Value, e = .returned (.tuple #[.agg #[v 0, v 1, v 2, v 3, v 4], .bool false]) ∧ ∀ i, i < 5 → (v i).oneCell' = true) ∧ Below w.heap.size w w' := by
  go_enter Tryz.func6, Tryz.ntmps6
  go_wp2_with (first
    | (go_at_call 19; refine (skip_nil _).mono ?_; rintro e w' ⟨rfl, rfl⟩)
    | (go_at_call 18; refine (value_nil _ _).mono ?_; rintro e w' ⟨rfl, rfl⟩))
  refine bodyPost_ret (v := .tuple #[.agg #[.slice none 0 0, .slice none 0 0, .slice none 0 0, .slice none 0 0, .slice none 0 0], .bool false]) ?_ rfl ?_
  · simp [results, Tryz.results6, go_sem]
  · refine ⟨⟨fun _ => .slice none 0 0, rfl, fun _ _ => rfl⟩, ?_⟩
    exact ((Below.refl _ _).alloc (Nat.le_refl _) _).alloc (by simp) _

theorem zzBytes5_yes (a : Option Addr) (len cap : Nat) (k : Int) (h : len ≤ 1048576) (w : World) : Calls Tryz.prog 5 #[.slice a len cap, .int .i64 k] w fun e w' => e = .returned (.bool true) ∧ w' = w := by
  have h1 : decide ((1048576 : Int) < (len : Int)) = false := by simp; omega
  go_enter Tryz.func5, Tryz.ntmps5
  go_wp2
  go_ret
  exact ⟨rfl, rfl⟩

theorem zzBytes5_no (a : Option Addr) (len cap : Nat) (k : Int) (h : 1048576 < len) (w : World) : Calls Tryz.prog 5 #[.slice a len cap, .int .i64 k] w fun e w' => e = .returned (.bool false) ∧ w' = w := by
  have h1 : (1048576 : Int) < (len : Int) := by omega
  go_enter Tryz.func5, Tryz.ntmps5
  go_wp2
  go_ret
  exact ⟨rfl, rfl⟩

end Go.Proofs.Qxb6616638aGreatFmt
