/-
  THE TAPE THAT THE LAW BUILDS: its memory, and the walks of push and closeAt.
-/
import Derived.Test.Qxb6616638aGreatFmtScan3
import Derived.Deep.AppendLies
namespace Go.Proofs.Qxb6616638aGreatFmt
open Go.RowKit
open Plain
set_option linter.unusedVariables false
set_option maxRecDepth 100000

/-- A function turned at one place. -/
def upd {α : Type} (f : Nat → α) (i : Nat) (x : α) : Nat → α := fun j => if j = i then x else f j
theorem upd_same {α : Type} (f : Nat → α) (i : Nat) (x : α) : upd f i x i = x := by simp [upd]
theorem upd_other {α : Type} (f : Nat → α) {i j : Nat} (x : α) (h : j ≠ i) : upd f i x j = f j := by simp [upd, h]

/-- The element types of the five slices. -/
def ety (i : Nat) : TypeId := if i = 2 ∨ i = 3 then 4 else 21

/-- FIVE SLICES IN A STRUCT's CELLS: the struct lies in block T, slice i owns the cells 'xs i', no two rows are one. -/
structure TS (w : World) (B0 T : Nat) (v : Nat → Value) (xs : Nat → List Value) : Prop where
  base : B0 ≤ T
  blk : ∃ cs : Array Value, w.heap[T]? = some (.cells cs 27 (0, 0)) ∧ cs.size = 5 ∧ ∀ i, i < 5 → cs[i]? = some (v i)
  own : ∀ i, i < 5 → w.ownsRow B0 (ety i) 1 (v i) (xs i).length (xs i)
  apart : ∀ i j, i < 5 → j < 5 → i ≠ j → (v i).ownBlock = none ∨ (v i).ownBlock ≠ (v j).ownBlock
  apartT : ∀ i, i < 5 → (v i).ownBlock ≠ some T

variable {w : World} {B0 T : Nat} {v : Nat → Value} {xs : Nat → List Value}

theorem TS.lt (h : TS w B0 T v xs) : T < w.heap.size := by
  obtain ⟨cs, hb, _⟩ := h.blk
  exact (Array.getElem?_eq_some_iff.1 hb).1

theorem TS.cell (h : TS w B0 T v xs) (i : Nat) (hi : i < 5) : w.cell? ⟨T, i, none⟩ = some (v i) := by
  obtain ⟨cs, hb, _, hc⟩ := h.blk
  unfold World.cell?
  rw [hb]
  simpa using hc i hi

theorem TS.frozen (h : TS w B0 T v xs) (i : Nat) : w.frozen? ⟨T, i, none⟩ = false := by
  obtain ⟨cs, hb, _⟩ := h.blk
  unfold World.frozen?
  rw [hb]
  simp

/-- What lies elsewhere has turned: the tape stands. -/
theorem TS.keep {w' : World} {row : Option Nat} (h : TS w B0 T v xs) (hg : w.grownBy w' row) (hT : row ≠ some T) (hr : ∀ i, i < 5 → (v i).ownBlock = none ∨ (v i).ownBlock ≠ row) : TS w' B0 T v xs := by
  refine ⟨h.base, ?_, fun i hi => (h.own i hi).kept hg (hr i hi), h.apart, h.apartT⟩
  obtain ⟨cs, hb, h5, hc⟩ := h.blk
  exact ⟨cs, by rw [hg.block T h.lt (fun e => hT e.symm)]; exact hb, h5, hc⟩

theorem grownBy_drewN (w : World) (q : Nat) : w.grownBy (w.drewN q) none := ⟨rfl, rfl, rfl, Nat.le_refl _, fun _ _ _ => rfl⟩

theorem TS.drewN (h : TS w B0 T v xs) (q : Nat) : TS (w.drewN q) B0 T v xs := h.keep (grownBy_drewN w q) (by simp) (fun i _ => by cases hv : (v i).ownBlock <;> simp)

theorem heap_setCell_self (w : World) (T i : Nat) (cs : Array Value) (t : TypeId) (fr : Nat × Nat) (x : Value) (h : w.heap[T]? = some (.cells cs t fr)) :
    (w.setCell ⟨T, i, none⟩ x).heap[T]? = some (.cells (cs.setIfInBounds i x) t fr) := by
  simp only [World.setCell, Array.getElem?_modify, if_true, h, Option.map_some]
  rfl

theorem grownBy_setCell (w : World) (a : Addr) (x : Value) : w.grownBy (w.setCell a x) (some a.block) :=
  ⟨rfl, rfl, rfl, by simp [World.setCell], fun k _ hk => Below.heap_setCell w a x k (fun e => hk (by rw [e]))⟩

/-- ONE APPEND ONTO SLICE i: the element lay in a block of its own, the slice's value has been stored back. -/
theorem TS.push {w1 : World} {i g cap n : Nat} {x : Value} {o : Obj} (h : TS w B0 T v xs) (hi : i < 5) (hn : (xs i).length = n)
    (hown : w1.ownsRow B0 (ety i) 1 (.slice (some ⟨g, 0, none⟩) (n + 1) cap) (n + 1) (xs i ++ [x])) (hg : (w.alloc o).grownBy w1 (v i).ownBlock)
    (hat : (v i).ownBlock = some g ∨ g = w.heap.size + 1) :
    TS (w1.setCell ⟨T, i, none⟩ (.slice (some ⟨g, 0, none⟩) (n + 1) cap)) B0 T (upd v i (.slice (some ⟨g, 0, none⟩) (n + 1) cap)) (upd xs i (xs i ++ [x])) := by
  have hT := h.lt
  have hTl : T < (w.alloc o).heap.size := by simp; omega
  have hgT : g ≠ T := by
    rcases hat with e | e
    · intro e2
      exact h.apartT i hi (by rw [e, e2])
    · omega
  have hother : ∀ j, j < 5 → j ≠ i → (v j).ownBlock ≠ some g := by
    intro j hj hji e
    rcases hat with e1 | e1
    · rcases h.apart j i hj hi hji with e2 | e2
      · rw [e] at e2; cases e2
      · exact e2 (by rw [e, e1])
    · have := ((h.own j hj).lt g e).2
      omega
  obtain ⟨cs, hb, h5, hc⟩ := h.blk
  have hb1 : w1.heap[T]? = some (.cells cs 27 (0, 0)) := by
    rw [hg.block T hTl (fun e => h.apartT i hi e.symm), Below.heap_alloc w o T hT]
    exact hb
  refine ⟨h.base, ?_, ?_, ?_, ?_⟩
  · refine ⟨cs.setIfInBounds i (.slice (some ⟨g, 0, none⟩) (n + 1) cap), heap_setCell_self w1 T i cs 27 (0, 0) _ hb1, by simpa using h5, fun j hj => ?_⟩
    by_cases e : j = i
    · subst e
      rw [upd_same, Array.getElem?_setIfInBounds_self_of_lt (by omega)]
    · rw [upd_other _ _ e, Array.getElem?_setIfInBounds_ne (by omega)]
      exact hc j hj
  · intro j hj
    have hset := grownBy_setCell w1 ⟨T, i, none⟩ (.slice (some ⟨g, 0, none⟩) (n + 1) cap)
    by_cases e : j = i
    · subst e
      rw [upd_same, upd_same]
      have hl : (xs j ++ [x]).length = n + 1 := by simp [hn]
      rw [hl]
      exact hown.kept hset (.inr (by simpa [Value.ownBlock] using hgT))
    · rw [upd_other _ _ e, upd_other _ _ e]
      refine (((h.own j hj).alloc o).kept hg ?_).kept hset (.inr (h.apartT j hj))
      exact h.apart j i hj hi e
  · intro j k hj hk hjk
    by_cases e : j = i
    · subst e
      rw [upd_same, upd_other _ _ (Ne.symm hjk)]
      right
      intro e2
      exact hother k hk (Ne.symm hjk) e2.symm
    · rw [upd_other _ _ e]
      by_cases e2 : k = i
      · subst e2
        rw [upd_same]
        right
        exact hother j hj e
      · rw [upd_other _ _ e2]
        exact h.apart j k hj hk hjk
  · intro j hj
    by_cases e : j = i
    · subst e
      rw [upd_same]
      simpa [Value.ownBlock] using hgT
    · rw [upd_other _ _ e]
      exact h.apartT j hj

end Go.Proofs.Qxb6616638aGreatFmt
