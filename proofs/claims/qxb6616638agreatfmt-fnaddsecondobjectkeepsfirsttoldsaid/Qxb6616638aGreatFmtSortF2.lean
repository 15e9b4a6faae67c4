/-
  slices.SortFunc under sortNames' comparison: the contract over plain lists.
-/
import Derived.Test.Qxb6616638aGreatFmtSortF
namespace Go.Proofs.Qxb6616638aGreatFmt
open Go.RowKit Go.Lib
open Go.Sort (grow putRow Holds SWO PermIn SortedIn)
open Plain
set_option linter.unusedVariables false
set_option maxRecDepth 100000

/-- The cells off .. off + len - 1 of block G hold f; all else is as it was, but for new blocks. -/
structure Turn (w w' : World) (G off len : Nat) (f : Nat → Value) : Prop where
  but : But w w' G
  cell : ∀ i, i < len → w'.cell? ⟨G, off + i, none⟩ = some (f i)
  out : ∀ o, o < off ∨ off + len ≤ o → w'.cell? ⟨G, o, none⟩ = w.cell? ⟨G, o, none⟩
  free : ∀ o, w'.frozen? ⟨G, o, none⟩ = w.frozen? ⟨G, o, none⟩
  shape : ∀ cs e fr, w.heap[G]? = some (.cells cs e fr) → ∃ cs', w'.heap[G]? = some (.cells cs' e fr) ∧ cs'.size = cs.size

theorem turn_sort {α : Type} [Inhabited α] (enc : α → Value) (w : World) (blk off n : Nat) (d0 d : Array α) (os : Array Go.Obj) (hH : Holds enc w blk off d0) (hs : d.size = d0.size) (hb : blk < w.heap.size) : Turn w (grow (putRow enc (Go.Sort.ahead w n) blk off d) os) blk off d.size (fun i => enc d[i]!) := by
  have hsz : blk < (putRow enc (Go.Sort.ahead w n) blk off d).heap.size := by simpa using hb
  refine ⟨but_sort enc w blk off n d os, fun i hi => ?_, fun o ho => ?_, fun o => ?_, fun cs e fr hc => ?_⟩
  · rw [Go.Sort.cell?_grow _ _ _ (by exact hsz)]
    exact Go.Sort.cell?_putRow enc _ blk off d0 d (Go.Sort.holds_ahead enc w n blk off d0 hH) hs i hi
  · rw [Go.Sort.cell?_grow _ _ _ (by exact hsz), Go.Sort.cell?_putRow_other _ _ _ _ _ _ (.inr ho)]
    rfl
  · rw [Go.Sort.frozen?_grow _ _ _ (by exact hsz), Go.Sort.frozen?_putRow]
    rfl
  · rw [Go.Sort.heap_grow_old _ _ hsz]
    show ∃ cs', (Go.Sort.mapBlock _ blk _).heap[blk]? = some (.cells cs' e fr) ∧ _
    unfold Go.Sort.mapBlock
    have hc' : (Go.Sort.ahead w n).heap[blk]? = some (.cells cs e fr) := hc
    simp only [Array.getElem?_modify, if_true, hc', Option.map_some, Go.Sort.onCells]
    refine ⟨_, rfl, ?_⟩
    simp [Go.Sort.putCells]

end Go.Proofs.Qxb6616638aGreatFmt
