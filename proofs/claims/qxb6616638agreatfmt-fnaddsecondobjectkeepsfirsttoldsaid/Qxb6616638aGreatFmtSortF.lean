/-
  slices.SortFunc under sortNames' comparison: what the row of places holds behind it.
-/
import Derived.Test.Qxb6616638aGreatFmtName2
import Derived.Test.Qxb6616638aGreatFmtShelf
import Derived.Test.Qxb6616638aGreatFmtOrdP
namespace Go.Proofs.Qxb6616638aGreatFmt
open Go.RowKit Go.Lib
open Go.Sort (grow putRow Holds SWO PermIn SortedIn)
open Plain
set_option linter.unusedVariables false
set_option maxRecDepth 100000

theorem swo_cmpU {α : Type} [Inhabited α] (u : α → List Nat) : SWO (ltOf (fun x y => cmpU (u x) (u y))) where
  irrefl x := by simp [ltOf, cmpU_self]
  trans x y z h1 h2 := by
    simp only [ltOf, decide_eq_true_eq] at h1 h2 ⊢
    exact cmpU_lt_of (by omega) h2
  ntrans x y z h1 h2 := by
    simp only [ltOf, decide_eq_false_iff_not] at h1 h2 ⊢
    have a := cmpU_neg (u x) (u y)
    have b := cmpU_neg (u y) (u z)
    have c := cmpU_neg (u x) (u z)
    have d := cmpU_le_trans (u z) (u y) (u x) (by omega) (by omega)
    omega

namespace Plain
/-- The order of the bytes is the order of the units. -/
theorem nm_cmp {bs : Nat → Nat} {n : Nat} {es : List Ent} {lsE : Nat → List Nat} {k : Nat} {js : List Nat} (h : Objt bs n es lsE k js) {x y : Nat} (hx : x < js.length) (hy : y < js.length) :
    cmpB (nmB bs es (js.getD x 0)) (nmB bs es (js.getD y 0)) = cmpU (uOf bs es lsE (js.getD x 0)) (uOf bs es lsE (js.getD y 0)) :=
  cmp_one bs _ _ _ _ _ _ (h.chars x hx) (h.chars y hy)
end Plain

/-- A world in which only the block G and new blocks may differ. -/
structure But (w w' : World) (G : Nat) : Prop where
  os : w'.os = w.os
  tape : w'.tape = w.tape
  output : w'.output = w.output
  size : w.heap.size ≤ w'.heap.size
  block : ∀ k, k < w.heap.size → k ≠ G → w'.heap[k]? = w.heap[k]?

theorem But.cell {w w' : World} {G : Nat} (h : But w w' G) {b o : Nat} (hb : b < w.heap.size) (hne : b ≠ G) : w'.cell? ⟨b, o, none⟩ = w.cell? ⟨b, o, none⟩ := World.cell?_of_block (w := w) (a := ⟨b, o, none⟩) (h.block b hb hne)

theorem CmpEnv.but {w w' : World} {bd bo bb bk O B n cap gk at' G : Nat} {bs : Nat → Nat} {es : List Ent} {js : List Nat} (h : CmpEnv w bd bo bb bk O B n cap gk at' bs es js) (hb : But w w' G) (h1 : bo ≠ G) (h2 : bb ≠ G) (h3 : bk ≠ G) (h4 : gk ≠ G) (h5 : B ≠ G) : CmpEnv w' bd bo bb bk O B n cap gk at' bs es js := by
  obtain ⟨l1, l2, l3, l4, l5⟩ := h.lts
  obtain ⟨c, hc⟩ := h.ck
  have hbd := h.hbd
  exact ⟨h.lts, Nat.le_trans h.hbd hb.size, (hb.cell (by omega) h1).trans h.co, (hb.cell (by omega) h2).trans h.cb, ⟨c, (hb.cell (by omega) h3).trans hc⟩, fun i hi => ⟨(hb.cell (by omega) h5).trans (h.txt i hi).1, (h.txt i hi).2⟩,
    fun i hi => ⟨(hb.cell (by omega) h4).trans (h.key i hi).1, (hb.cell (by omega) h4).trans (h.key i hi).2.1, (hb.cell (by omega) h4).trans (h.key i hi).2.2.1, (hb.cell (by omega) h4).trans (h.key i hi).2.2.2⟩, h.nm, h.hn, h.hcap, h.hjs⟩

theorem but_sort {α : Type} [Inhabited α] (enc : α → Value) (w : World) (blk off m : Nat) (dk : Array α) (os : Array Go.Obj) : But w (sortWorld enc w blk off m dk os) blk := by
  refine ⟨rfl, rfl, rfl, by unfold sortWorld; simp, fun k hk hne => ?_⟩
  unfold sortWorld
  rw [Go.Sort.heap_grow_old _ _ (by simpa using hk)]
  show (Go.Sort.mapBlock _ blk _).heap[k]? = _
  unfold Go.Sort.mapBlock
  simp [Array.getElem?_modify, Ne.symm hne]

end Go.Proofs.Qxb6616638aGreatFmt
