/-
  THE WALK of drop.
-/
import Derived.Test.Qxb6616638aGreatFmtSortN0
import Derived.Test.Qxb6616638aGreatFmtAddM2
import Derived.BigRegion
namespace Go.Proofs.Qxb6616638aGreatFmt
open Go.RowKit
open Plain
set_option linter.unusedVariables false
set_option maxRecDepth 100000

variable {w : World}

/-- Only cells 0, 1, 2 of block O differ, and new blocks. -/
structure DropGives (w : World) (O : Nat) (a b c : Value) (w' : World) : Prop where
  but : But w w' O
  c0 : w'.cell? ⟨O, 0, none⟩ = some a
  c1 : w'.cell? ⟨O, 1, none⟩ = some b
  c2 : w'.cell? ⟨O, 2, none⟩ = some c
  out : ∀ o, 3 ≤ o → w'.cell? ⟨O, o, none⟩ = w.cell? ⟨O, o, none⟩
  free : ∀ o, w'.frozen? ⟨O, o, none⟩ = w.frozen? ⟨O, o, none⟩

theorem drop_world {w W : World} {O : Nat} {a b c a' b' c' : Value} (hB : Below w.heap.size w W) (hO : O < w.heap.size) (d0 : W.cell? ⟨O, 0, none⟩ = some a') (d1 : W.cell? ⟨O, 1, none⟩ = some b') (d2 : W.cell? ⟨O, 2, none⟩ = some c') :
    DropGives w O a b c (((W.setCell ⟨O, 0, none⟩ a).setCell ⟨O, 1, none⟩ b).setCell ⟨O, 2, none⟩ c).drew := by
  have n01 : (⟨O, 0, none⟩ : Addr) ≠ ⟨O, 1, none⟩ := by simp
  have n02 : (⟨O, 0, none⟩ : Addr) ≠ ⟨O, 2, none⟩ := by simp
  have n12 : (⟨O, 1, none⟩ : Addr) ≠ ⟨O, 2, none⟩ := by simp
  refine ⟨⟨hB.os, hB.tape, hB.output, by simpa using hB.size, fun k hk hne => ?_⟩, ?_, ?_, ?_, fun o ho => ?_, fun o => ?_⟩
  · show (((W.setCell ⟨O, 0, none⟩ a).setCell ⟨O, 1, none⟩ b).setCell ⟨O, 2, none⟩ c).heap[k]? = _
    rw [Below.heap_setCell _ _ _ k hne, Below.heap_setCell _ _ _ k hne, Below.heap_setCell _ _ _ k hne]
    exact hB.block k hk
  · rw [World.cell?_drew, World.cell?_setCell_other _ _ _ _ n02.symm, World.cell?_setCell_other _ _ _ _ n01.symm]
    exact World.cell?_setCell_same _ _ _ d0
  · rw [World.cell?_drew, World.cell?_setCell_other _ _ _ _ n12.symm]
    refine World.cell?_setCell_same _ _ _ (u := b') ?_
    rw [World.cell?_setCell_other _ _ _ _ n01]
    exact d1
  · rw [World.cell?_drew]
    refine World.cell?_setCell_same _ _ _ (u := c') ?_
    rw [World.cell?_setCell_other _ _ _ _ n12, World.cell?_setCell_other _ _ _ _ n02]
    exact d2
  · rw [World.cell?_drew, World.cell?_setCell_other _ _ _ _ (by intro e; injection e with _ e _; omega), World.cell?_setCell_other _ _ _ _ (by intro e; injection e with _ e _; omega), World.cell?_setCell_other _ _ _ _ (by intro e; injection e with _ e _; omega)]
    exact hB.cell (p := ⟨O, o, none⟩) hO
  · show (((W.setCell ⟨O, 0, none⟩ a).setCell ⟨O, 1, none⟩ b).setCell ⟨O, 2, none⟩ c).frozen? _ = _
    rw [World.frozen?_setCell, World.frozen?_setCell, World.frozen?_setCell]
    exact hB.frozen (p := ⟨O, o, none⟩) hO

set_option maxHeartbeats 8000000 in
theorem drop_any (O first lk ck lo co : Nat) (ak ao : Option Addr) (hO : O < w.heap.size) (c0 : w.cell? ⟨O, 0, none⟩ = some (.slice ak lk ck)) (c1 : w.cell? ⟨O, 1, none⟩ = some (.slice ao lo co)) (c2 : w.cell? ⟨O, 2, none⟩ = some (.slice none 0 0))
    (f0 : w.frozen? ⟨O, 0, none⟩ = false) (f1 : w.frozen? ⟨O, 1, none⟩ = false) (f2 : w.frozen? ⟨O, 2, none⟩ = false) (h1 : first ≤ ck) (h2 : first ≤ co) (hf : first ≤ 16383) :
    Calls Tryz.prog 32 #[.pointer (some ⟨O, 0, none⟩), .agg #[.int .i32 (first : Int), .int .i32 0]] w fun e w' => e = .returned (.tuple #[]) ∧ DropGives w O (.slice ak first ck) (.slice ao first co) (.slice none 0 0) w' := by
  have hne : O ≠ w.heap.size := by omega
  have k1 : (first : Int) ≤ (ck : Int) := by omega
  have k2 : (first : Int) ≤ (co : Int) := by omega
  have k3 : (0 : Int) ≤ (first : Int) := by omega
  go_enter Tryz.func32, Tryz.ntmps32
  go_wp2
  obtain ⟨W, hW⟩ : ∃ W, W = w.alloc (.cells #[.int .i32 (first : Int), .int .i32 0] 69) := ⟨_, rfl⟩
  obtain ⟨bx, hbx⟩ : ∃ bx, bx = w.heap.size := ⟨_, rfl⟩
  have hB : Below w.heap.size w W := by rw [hW]; exact (Below.refl _ _).alloc (Nat.le_refl _) _
  have d0 : W.cell? ⟨O, 0, none⟩ = some (.slice ak lk ck) := (hB.cell (p := ⟨O, 0, none⟩) hO).trans c0
  have d1 : W.cell? ⟨O, 1, none⟩ = some (.slice ao lo co) := (hB.cell (p := ⟨O, 1, none⟩) hO).trans c1
  have d2 : W.cell? ⟨O, 2, none⟩ = some (.slice none 0 0) := (hB.cell (p := ⟨O, 2, none⟩) hO).trans c2
  have e0 : W.frozen? ⟨O, 0, none⟩ = false := (hB.frozen (p := ⟨O, 0, none⟩) hO).trans f0
  have e1 : W.frozen? ⟨O, 1, none⟩ = false := (hB.frozen (p := ⟨O, 1, none⟩) hO).trans f1
  have e2 : W.frozen? ⟨O, 2, none⟩ = false := (hB.frozen (p := ⟨O, 2, none⟩) hO).trans f2
  have b0 : W.cell? ⟨bx, 0, none⟩ = some (.int .i32 (first : Int)) := by rw [hW, hbx, World.cell?_alloc_new]; rfl
  have b1 : W.cell? ⟨bx, 1, none⟩ = some (.int .i32 0) := by rw [hW, hbx, World.cell?_alloc_new]; rfl
  have hOb : O ≠ bx := by omega
  have hbO : bx ≠ O := by omega
  rw [← hW, ← hbx]
  have HB := hide hB
  clear hW hbx hB c0 c1 c2 f0 f1 f2
  go_region
  all_goals go_wp2
  all_goals go_end0
  all_goals exact ⟨rfl, drop_world HB.out hO d0 d1 d2⟩

end Go.Proofs.Qxb6616638aGreatFmt
