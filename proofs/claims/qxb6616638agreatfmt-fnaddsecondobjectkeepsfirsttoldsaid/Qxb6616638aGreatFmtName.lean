/-
  THE WALKS of decoded and name, of sortNames' comparison.
-/
import Derived.Test.Qxb6616638aGreatFmtCmpB
import Derived.Test.Qxb6616638aGreatFmtNR
namespace Go.Proofs.Qxb6616638aGreatFmt
open Go.RowKit
open Plain
set_option linter.unusedVariables false
set_option maxRecDepth 100000

variable {w : World}

theorem decoded_any (a b c d : Int) (hd : 0 ≤ d) :
    Calls Tryz.prog 60 #[.agg #[.int .i32 a, .int .i32 b, .int .i32 c, .int .i32 d]] w fun e w' => e = .returned (.bool false) ∧ Below w.heap.size w w' := by
  have hd' : ¬ d < 0 := by omega
  go_enter Tryz.func60, Tryz.ntmps60
  go_wp2
  go_ret
  exact ⟨rfl, (Below.refl _ _).alloc (Nat.le_refl _) _⟩

theorem name_any (O B n cap f t : Nat) (a d : Int) (hd : 0 ≤ d) (hft : f ≤ t) (htn : t ≤ n) (hfc : f < cap) (hcap : n ≤ cap) (hn : n ≤ 16383) :
    Calls Tryz.prog 47 #[.pointer (some ⟨O, 0, none⟩), .slice (some ⟨B, 0, none⟩) n cap, .agg #[.int .i32 a, .int .i32 (f : Int), .int .i32 (t : Int), .int .i32 d]] w fun e w' => e = .returned (.slice (some ⟨B, f, none⟩) (t - f) (cap - f)) ∧ Below w.heap.size w w' := by
  go_enter Tryz.func47, Tryz.ntmps47
  go_wp2_with fail
  refine (decoded_any _ _ _ _ hd).mono ?_
  rintro e w1 ⟨rfl, hb⟩
  simp only [World.size_alloc] at hb
  have c1 : w1.cell? ⟨w.heap.size, 1, none⟩ = some (.int .i32 (f : Int)) := by
    rw [hb.cell (p := ⟨w.heap.size, 1, none⟩) (by simp), World.cell?_alloc_new]
    rfl
  have c2 : w1.cell? ⟨w.heap.size, 2, none⟩ = some (.int .i32 (t : Int)) := by
    rw [hb.cell (p := ⟨w.heap.size, 2, none⟩) (by simp), World.cell?_alloc_new]
    rfl
  have HB : Hid (Below w.heap.size w w1) := ((Below.refl w.heap.size w).alloc (Nat.le_refl _) _).trans (hb.mono (by simp))
  clear hb
  go_wp2
  go_ret
  exact ⟨rfl, HB.out⟩

end Go.Proofs.Qxb6616638aGreatFmt
