/-
  Small laws for addMembers' round.
-/
import Derived.Test.Qxb6616638aGreatFmtAddM0
import Derived.Laws.BitsAllLaws
namespace Go.Proofs.Qxb6616638aGreatFmt
open Go.RowKit
open Plain
set_option linter.unusedVariables false
set_option maxRecDepth 100000

namespace Plain
theorem nb_lt {bs : Nat → Nat} {p k : Nat} (h : ∀ i, i < k → bs (p + i) < 256) (i : Nat) : nb bs p k i < 256 := by
  unfold nb
  split
  · exact h i (by assumption)
  · omega
theorem ld_lt {bs : Nat → Nat} {p k : Nat} (h : ∀ i, i < k → bs (p + i) < 256) : ld bs p k < 281474976710656 := by
  have h0 := nb_lt h 0; have h1 := nb_lt h 1; have h2 := nb_lt h 2; have h3 := nb_lt h 3; have h4 := nb_lt h 4; have h5 := nb_lt h 5
  unfold ld
  omega
theorem orL_snoc (bs : Nat → Nat) (es : List Ent) (js : List Nat) (j : Nat) : orL bs es (js ++ [j]) = orL bs es js ||| ldE bs es j := by simp [orL]
theorem orL_lt (bs : Nat → Nat) (es : List Ent) : ∀ (js : List Nat) (a : Nat), a < 281474976710656 → (∀ j ∈ js, ldE bs es j < 281474976710656) → js.foldl (fun a j => a ||| ldE bs es j) a < 281474976710656
  | [], a, ha, _ => ha
  | j :: js, a, ha, h => orL_lt bs es js _ (Nat.or_lt_two_pow (n := 48) ha (h j (by simp))) (fun x hx => h x (by simp [hx]))
end Plain

theorem or_run (a b : Nat) (ha : a < 281474976710656) (hb : b < 281474976710656) : bits .or .u64 (a : Int) (b : Int) = ((a ||| b : Nat) : Int) := u64_or_nat a b (by omega) (by omega)

theorem or16_run (L i : Nat) (hL : L < 281474976710656) (hi : i < 65536) : bits .or .u64 ((L : Int) * 65536) (i : Int) = ((L * 65536 + i : Nat) : Int) := by
  rw [show ((L : Int) * 65536) = ((L * 65536 : Nat) : Int) by omega, u64_or_nat _ _ (by omega) (by omega), nat_join 16 (L * 65536) i (by omega) (by omega)]

theorem ownsRow_below {w w' : World} {base : Nat} {e : TypeId} {sz : Nat} {v : Value} {n : Nat} {xs : List Value} (h : w.ownsRow base e sz v n xs) (hb : Below w.heap.size w w') : w'.ownsRow base e sz v n xs :=
  h.kept (row := none) ⟨hb.os, hb.tape, hb.output, hb.size, fun k hk _ => hb.block k hk⟩ (by cases hv : v.ownBlock <;> simp)

theorem But2.below {w w' : World} {v v2 : Value} {base : Nat} (h : But2 w w' v v2) (hb : base ≤ w.heap.size) (h1 : ∀ k, v.ownBlock = some k → base ≤ k) (h2 : ∀ k, v2.ownBlock = some k → base ≤ k) : Below base w w' :=
  ⟨h.os, h.tape, h.output, h.size, fun k hk => h.block k (by omega) (fun e => by have := h1 k e.symm; omega) (fun e => by have := h2 k e.symm; omega)⟩

theorem But2.after {w w' w'' : World} {v v2 : Value} (h : But2 w w' v v2) (hb : Below w'.heap.size w' w'') : But2 w w'' v v2 :=
  ⟨hb.os.trans h.os, hb.tape.trans h.tape, hb.output.trans h.output, Nat.le_trans h.size hb.size, fun k hk h1 h2 => (hb.block k (Nat.lt_of_lt_of_le hk h.size)).trans (h.block k hk h1 h2)⟩

theorem But2.set {w w' : World} {v v2 u : Value} {g o : Nat} {x : Value} (h : But2 w w' v v2) (hs : Since w v u ∨ Since w v2 u) (hu : u.ownBlock = some g) : But2 w (w'.setCell ⟨g, o, none⟩ x) v v2 := by
  refine ⟨h.os, h.tape, h.output, by simpa using h.size, fun k hk h1 h2 => ?_⟩
  rw [Below.heap_setCell w' _ x k (fun e => ?_)]
  · exact h.block k hk h1 h2
  · have e' : k = g := e
    subst e'
    rcases hs with hs | hs
    · rcases hs with hs | ⟨g', hs, hs'⟩
      · exact h1 (by rw [← hs, hu])
      · rw [hu] at hs; injection hs with hs; omega
    · rcases hs with hs | ⟨g', hs, hs'⟩
      · exact h2 (by rw [← hs, hu])
      · rw [hu] at hs; injection hs with hs; omega

/-- Two new blocks of two cells. -/
theorem two_blocks (w : World) (a0 a1 b0 b1 : Value) (t : TypeId) : let W := ((w.alloc (.cells #[a0, a1] t)).alloc (.cells #[b0, b1] t)).drew
    W.cell? ⟨w.heap.size, 0, none⟩ = some a0 ∧ W.cell? ⟨w.heap.size, 1, none⟩ = some a1 ∧ W.cell? ⟨w.heap.size + 1, 0, none⟩ = some b0 ∧ W.cell? ⟨w.heap.size + 1, 1, none⟩ = some b1 ∧ Below w.heap.size w W ∧ W.heap.size = w.heap.size + 2 := by
  intro W
  have h1 : ∀ o, W.cell? ⟨w.heap.size, o, none⟩ = (w.alloc (.cells #[a0, a1] t)).cell? ⟨w.heap.size, o, none⟩ := fun o => World.cell?_alloc_lt _ _ _ (by simp)
  have h2 : ∀ o, W.cell? ⟨w.heap.size + 1, o, none⟩ = ((w.alloc (.cells #[a0, a1] t)).alloc (.cells #[b0, b1] t)).cell? ⟨(w.alloc (.cells #[a0, a1] t)).heap.size, o, none⟩ := fun o => by simp [W]
  refine ⟨?_, ?_, ?_, ?_, (((Below.refl _ _).alloc (Nat.le_refl _) _).alloc (by simp) _).drew, by simp [W]⟩
  · rw [h1, World.cell?_alloc_new]; rfl
  · rw [h1, World.cell?_alloc_new]; rfl
  · rw [h2, World.cell?_alloc_new]; rfl
  · rw [h2, World.cell?_alloc_new]; rfl

end Go.Proofs.Qxb6616638aGreatFmt
