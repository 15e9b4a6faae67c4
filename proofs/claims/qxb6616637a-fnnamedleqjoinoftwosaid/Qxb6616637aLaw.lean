/-
  THE PLAIN LAW of a lattice of upper sets: no Go in sight. 'A i' is the set of ranks at or above i, a bit a rank.
-/
namespace Go.Proofs.Qxb6616637a.Plain

/-- What the law takes from 'namedWellFormed': each set holds its own rank, none below it, none at or beyond n. -/
structure Wf (n : Nat) (A : Nat → Nat) : Prop where
  own : ∀ i, i < n → (A i).testBit i = true
  none_below : ∀ i, i < n → ∀ j, j < i → (A i).testBit j = false
  none_beyond : ∀ i, i < n → ∀ j, n ≤ j → (A i).testBit j = false

/-- k is the lowest bit of x. -/
def Lowest (x k : Nat) : Prop := x.testBit k = true ∧ ∀ j, j < k → x.testBit j = false

theorem Lowest.uniq {x k l : Nat} (h : Lowest x k) (g : Lowest x l) : k = l := by
  rcases Nat.lt_trichotomy k l with c | c | c
  · have := g.2 k c
    rw [h.1] at this
    cases this
  · exact c
  · have := h.2 l c
    rw [g.1] at this
    cases this

/-- What the law takes from 'namedJoinClosed'. -/
def Join (n : Nat) (A : Nat → Nat) : Prop :=
  ∀ i j, i < j → j < n → A i &&& A j ≠ 0 → ∀ k, Lowest (A i &&& A j) k → A k = A i &&& A j

theorem ne_zero_of_bit {x k : Nat} (h : x.testBit k = true) : x ≠ 0 := by
  intro e
  subst e
  simp at h

theorem bit_of_ne_zero {x : Nat} (h : x ≠ 0) : ∃ k, x.testBit k = true := Nat.exists_testBit_of_ne_zero h

theorem bit_lt {n : Nat} {A : Nat → Nat} (hw : Wf n A) {i k : Nat} (hi : i < n) (h : (A i).testBit k = true) : k < n := by
  rcases Nat.lt_or_ge k n with c | c
  · exact c
  · have := hw.none_beyond i hi k c
    rw [h] at this
    cases this

/-- No rank lies above both: their sets do not meet, and neither is below the other. -/
theorem apart {n : Nat} {A : Nat → Nat} (hw : Wf n A) {r s : Nat} (hr : r < n) (hs : s < n) (hno : ∀ j, j < n → ((A r).testBit j && (A s).testBit j) = false) :
    A r &&& A s = 0 ∧ (A r).testBit s = false ∧ (A s).testBit r = false := by
  refine ⟨?_, ?_, ?_⟩
  · rcases Nat.eq_zero_or_pos (A r &&& A s) with h | h
    · exact h
    · obtain ⟨k, hk⟩ := bit_of_ne_zero (show A r &&& A s ≠ 0 by omega)
      rw [Nat.testBit_and] at hk
      have hk1 : (A r).testBit k = true := by
        revert hk; cases (A r).testBit k <;> simp
      have := hno k (bit_lt hw hr hk1)
      rw [hk] at this
      cases this
  · have := hno s hs
    rw [hw.own s hs] at this
    simpa using this
  · have := hno r hr
    rw [hw.own r hr] at this
    simpa using this

/-- The first rank above both: it is the lowest of what the two sets share; its own set is just that. -/
theorem meets {n : Nat} {A : Nat → Nat} (hw : Wf n A) (hj : Join n A) {r s c : Nat} (hr : r < n) (hs : s < n)
    (hc : ((A r).testBit c && (A s).testBit c) = true) (hno : ∀ j, j < c → ((A r).testBit j && (A s).testBit j) = false) :
    A r &&& A s ≠ 0 ∧ (∀ t, (A c).testBit t = ((A r).testBit t && (A s).testBit t)) ∧ ((A r).testBit s = decide (c = s)) := by
  have hlow : Lowest (A r &&& A s) c := ⟨by rw [Nat.testBit_and]; exact hc, fun j h => by rw [Nat.testBit_and]; exact hno j h⟩
  have hne : A r &&& A s ≠ 0 := ne_zero_of_bit hlow.1
  have hset : A c = A r &&& A s := by
    rcases Nat.lt_trichotomy r s with h | h | h
    · exact hj r s h hs hne c hlow
    · subst h
      have hl : Lowest (A r) r := ⟨hw.own r hr, hw.none_below r hr⟩
      rw [Nat.and_self] at hlow ⊢
      rw [hlow.uniq hl]
    · rw [Nat.and_comm] at hlow hne ⊢
      exact hj s r h hr hne c hlow
  refine ⟨hne, fun t => by rw [hset, Nat.testBit_and], ?_⟩
  by_cases e : c = s
  · subst e
    have : (A r).testBit c = true := by revert hc; cases (A r).testBit c <;> simp
    rw [this]
    simp
  · have : (A r).testBit s = false := by
      cases hb : (A r).testBit s with
      | false => rfl
      | true =>
        exfalso
        apply e
        refine hlow.uniq ⟨by rw [Nat.testBit_and, hb, hw.own s hs]; rfl, fun j h => ?_⟩
        rw [Nat.testBit_and, hw.none_below s hs j h]
        simp
    rw [this]
    simp [e]

end Go.Proofs.Qxb6616637a.Plain
