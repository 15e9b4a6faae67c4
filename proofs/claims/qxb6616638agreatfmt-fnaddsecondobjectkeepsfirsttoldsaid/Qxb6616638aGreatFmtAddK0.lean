/-
  The kept order while it is written.
-/
import Derived.Test.Qxb6616638aGreatFmtAdd5
import Derived.Test.Qxb6616638aGreatFmtPush
namespace Go.Proofs.Qxb6616638aGreatFmt
open Go.RowKit
open Plain
set_option linter.unusedVariables false
set_option maxRecDepth 100000

theorem info5k : ∃ i, Tryz.prog.info? 5 = some i ∧ i.zero = some (.int .u8 0) ∧ i.size = 1 ∧ i.bytes = 1 := by
  have h : (Tryz.prog.info? 5).map (fun i => (i.zero, i.size, i.bytes)) = some (some (.int .u8 0), 1, 1) := by kernel_rfl
  obtain ⟨i, hi, hz⟩ := Option.map_eq_some_iff.1 h
  simp only [Prod.mk.injEq] at hz
  exact ⟨i, hi, hz.1, hz.2.1, hz.2.2⟩

structure KS (wr wz : World) (O p i : Nat) (v : Value) (xs : List Value) : Prop where
  but : But wr wz O
  low : ∀ o, o < 3 → wz.cell? ⟨O, o, none⟩ = wr.cell? ⟨O, o, none⟩
  fz : ∀ o, wz.frozen? ⟨O, o, none⟩ = wr.frozen? ⟨O, o, none⟩
  cell : wz.cell? ⟨O, p, none⟩ = some v
  row : wz.ownsRow wr.heap.size 5 1 v i xs

variable {wr wz z : World} {O p i : Nat} {v : Value} {xs : List Value}


theorem KS.of {q : Nat} {u0 u1 h0 : Value} (hp : 3 ≤ p) (hq : 3 ≤ q) (hpq : q ≠ p) (e1 : wr.cell? ⟨O, p, none⟩ = some u1) :
    KS wr ((wr.setCell ⟨O, q, none⟩ h0).setCell ⟨O, p, none⟩ (.slice none 0 0)).drew O p 0 (.slice none 0 0) [] := by
  refine ⟨⟨rfl, rfl, rfl, by simp, fun k hk hne => ?_⟩, fun o ho => ?_, fun o => ?_, ?_, ⟨rfl, .inl ⟨rfl, rfl⟩⟩⟩
  · show ((wr.setCell ⟨O, q, none⟩ h0).setCell ⟨O, p, none⟩ (.slice none 0 0)).heap[k]? = _
    rw [Below.heap_setCell _ _ _ k hne, Below.heap_setCell _ _ _ k hne]
  · rw [World.cell?_drew, set_other (.inr (by omega)), set_other (.inr (by omega))]
  · show ((wr.setCell ⟨O, q, none⟩ h0).setCell ⟨O, p, none⟩ (.slice none 0 0)).frozen? _ = _
    rw [World.frozen?_setCell, World.frozen?_setCell]
  · rw [World.cell?_drew]
    refine set_same (u := u1) ?_
    rw [set_other (.inr hpq)]
    exact e1

theorem KS.keep {o : Obj} (h : KS wr wz O p i v xs) (hO : O < wr.heap.size) (hg : (wz.alloc o).grownBy z v.ownBlock) : ∀ k, k < wr.heap.size → z.heap[k]? = wz.heap[k]? := by
  intro k hk
  have hsz := h.but.size
  rw [hg.block k (by simp; omega) (fun e => ?_), Below.heap_alloc wz o k (by omega)]
  rcases h.row.2 with ⟨h1, _⟩ | ⟨g, _, _, h1, h2, _⟩
  · rw [h1] at e; cases e
  · rw [h1] at e
    injection e with e
    have e' : k = g := e
    omega

theorem KS.push {o : Obj} {x : Value} {g cap : Nat} (h : KS wr wz O p i v xs) (hO : O < wr.heap.size) (hp : 3 ≤ p) (hg : (wz.alloc o).grownBy z v.ownBlock) (hown : z.ownsRow wr.heap.size 5 1 (.slice (some ⟨g, 0, none⟩) (i + 1) cap) (i + 1) (xs ++ [x])) :
    KS wr (z.setCell ⟨O, p, none⟩ (.slice (some ⟨g, 0, none⟩) (i + 1) cap)) O p (i + 1) (.slice (some ⟨g, 0, none⟩) (i + 1) cap) (xs ++ [x]) := by
  have hk := h.keep hO hg
  have hsz := h.but.size
  have hgs : wz.heap.size ≤ z.heap.size := by
    have := hg.size
    simp at this
    omega
  have gb : wr.heap.size ≤ g := (row_obj hown).choose_spec.1
  have kc : ∀ o, z.cell? ⟨O, o, none⟩ = wz.cell? ⟨O, o, none⟩ := fun o => by simp only [World.cell?, hk O hO]
  have kf : ∀ o, z.frozen? ⟨O, o, none⟩ = wz.frozen? ⟨O, o, none⟩ := fun o => by simp only [World.frozen?, hk O hO]
  refine ⟨⟨?_, ?_, ?_, by simp; omega, fun k hk' hne => ?_⟩, fun o ho => ?_, fun o => ?_, ?_, ?_⟩
  · show z.os = _
    rw [hg.os]; exact h.but.os
  · show z.tape = _
    rw [hg.tape]; exact h.but.tape
  · show z.output = _
    rw [hg.output]; exact h.but.output
  · rw [Below.heap_setCell _ _ _ k hne, hk k hk']
    exact h.but.block k hk' hne
  · rw [set_other (.inr (by omega)), kc]
    exact h.low o ho
  · rw [World.frozen?_setCell, kf]
    exact h.fz o
  · exact set_same ((kc p).trans h.cell)
  · exact ownsRow_set hown (by rw [own_some]; simp; omega) _

end Go.Proofs.Qxb6616638aGreatFmt
