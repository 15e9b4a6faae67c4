/-
  Small laws for the walk of add.
-/
import Derived.Test.Qxb6616638aGreatFmtAdd3
import Derived.Laws.Bits64b
import Derived.Deep.Cut
namespace Go.Proofs.Qxb6616638aGreatFmt
open Go.RowKit
open Plain
set_option linter.unusedVariables false
set_option maxRecDepth 100000

theorem and_run (a : Nat) (ha : a < 18446744073709551616) : bits .and .u64 (a : Int) 141289400074368 = ((a &&& 141289400074368 : Nat) : Int) := by
  have h := bits_and_u64_nat a 141289400074368 ha (by omega)
  exact h

theorem two_free (w : World) (a0 a1 b0 b1 : Value) (t : TypeId) : ∀ o, ((w.alloc (.cells #[a0, a1] t)).alloc (.cells #[b0, b1] t)).drew.frozen? ⟨w.heap.size, o, none⟩ = false := by
  intro o
  have hb : Below (w.heap.size + 1) (w.alloc (.cells #[a0, a1] t)) ((w.alloc (.cells #[a0, a1] t)).alloc (.cells #[b0, b1] t)).drew := ((Below.refl _ _).alloc (by simp) _).drew
  rw [hb.frozen (p := ⟨w.heap.size, o, none⟩) (by simp), World.frozen?_alloc_new]

theorem start_blocks (w : World) (first : Nat) {wc : World} (h : wc = ((w.alloc (.cells #[.int .i32 0, .int .i32 0] 69)).alloc (.cells #[.int .i32 (first : Int), .int .i32 0] 69)).drew) :
    wc.cell? ⟨w.heap.size + 1, 0, none⟩ = some (.int .i32 (first : Int)) ∧ wc.cell? ⟨w.heap.size + 1, 1, none⟩ = some (.int .i32 0) ∧ wc.cell? ⟨w.heap.size, 0, none⟩ = some (.int .i32 0) ∧ wc.cell? ⟨w.heap.size, 1, none⟩ = some (.int .i32 0) ∧
      (∀ o, wc.frozen? ⟨w.heap.size, o, none⟩ = false) ∧ w.heap.size + 1 < wc.heap.size ∧ Below w.heap.size w wc := by
  subst h
  obtain ⟨y0, y1, y2, y3, y4, y5⟩ := two_blocks w (.int .i32 0) (.int .i32 0) (.int .i32 (first : Int)) (.int .i32 0) 69
  exact ⟨y2, y3, y0, y1, two_free _ _ _ _ _ _, by rw [y5]; omega, y4⟩

/-- Two alike in a permutation of the places. -/
theorem alike_of {us : Nat → List Nat} {N : Nat} {is : List Nat} (hp : is.Perm (List.range N)) {i : Nat} (h1 : i + 1 < is.length) (h2 : cmpU (us (is.getD i 0)) (us (is.getD (i + 1) 0)) = 0) : ∃ x y, x < N ∧ y < N ∧ x ≠ y ∧ cmpU (us x) (us y) = 0 := by
  have hnd : is.Nodup := hp.nodup_iff.2 List.nodup_range
  have hmem : ∀ k, k < is.length → is.getD k 0 < N := by
    intro k hk
    have : is.getD k 0 ∈ is := by rw [List.getD_eq_getElem?_getD, List.getElem?_eq_getElem hk]; simp
    exact List.mem_range.1 (hp.mem_iff.1 this)
  refine ⟨_, _, hmem i (by omega), hmem (i + 1) h1, ?_, h2⟩
  rw [List.getD_eq_getElem?_getD, List.getD_eq_getElem?_getD, List.getElem?_eq_getElem h1, List.getElem?_eq_getElem (show i < is.length by omega)]
  simp only [Option.getD_some]
  intro e
  rw [List.nodup_iff_pairwise_ne, List.pairwise_iff_getElem] at hnd
  exact hnd i (i + 1) (by omega) h1 (by omega) e

end Go.Proofs.Qxb6616638aGreatFmt
