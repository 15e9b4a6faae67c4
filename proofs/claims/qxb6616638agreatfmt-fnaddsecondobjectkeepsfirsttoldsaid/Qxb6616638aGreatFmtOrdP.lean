/-
  PLAIN: the order by code units is a total order; insertion; a strictly sorted permutation is unique. No Go in sight.
-/
import Derived.Test.Qxb6616638aGreatFmtOrd2
namespace Go.Proofs.Qxb6616638aGreatFmt.Plain

theorem cmpU_self : ∀ x : List Nat, cmpU x x = 0
  | [] => rfl
  | a :: x => by rw [cmpU, if_pos rfl, cmpU_self x]

theorem cmpU_neg : ∀ x y : List Nat, cmpU y x = - cmpU x y
  | [], [] => rfl
  | [], _ :: _ => rfl
  | _ :: _, [] => rfl
  | a :: x, b :: y => by
    rw [cmpU, cmpU]
    by_cases h : a = b
    · rw [if_pos h, if_pos h.symm, cmpU_neg x y]
    · rw [if_neg h, if_neg (fun e => h e.symm)]
      by_cases h2 : a < b
      · rw [if_pos h2, if_neg (by omega)]
        decide
      · rw [if_neg h2, if_pos (by omega)]

theorem cmpU_zero : ∀ x y : List Nat, cmpU x y = 0 → x = y
  | [], [], _ => rfl
  | [], _ :: _, h => by simp [cmpU] at h
  | _ :: _, [], h => by simp [cmpU] at h
  | a :: x, b :: y, h => by
    rw [cmpU] at h
    by_cases e : a = b
    · rw [if_pos e] at h
      rw [e, cmpU_zero x y h]
    · rw [if_neg e] at h
      split at h <;> omega

theorem cmpU_le_trans : ∀ x y z : List Nat, cmpU x y ≤ 0 → cmpU y z ≤ 0 → cmpU x z ≤ 0
  | [], _, [], _, _ => by simp [cmpU]
  | [], _, _ :: _, _, _ => by simp [cmpU]
  | _ :: _, [], _, h, _ => by simp [cmpU] at h
  | _ :: _, _ :: _, [], _, h => by simp [cmpU] at h
  | a :: x, b :: y, c :: z, h1, h2 => by
    rw [cmpU] at h1 h2 ⊢
    by_cases e1 : a = b
    · subst e1
      rw [if_pos rfl] at h1
      by_cases e2 : a = c
      · rw [if_pos e2] at h2 ⊢
        exact cmpU_le_trans x y z h1 h2
      · rw [if_neg e2] at h2 ⊢
        exact h2
    · rw [if_neg e1] at h1
      have l1 : a < b := by
        split at h1
        · assumption
        · omega
      by_cases e2 : b = c
      · subst e2
        rw [if_neg e1, if_pos l1]
        omega
      · rw [if_neg e2] at h2
        have l2 : b < c := by
          split at h2
          · assumption
          · omega
        rw [if_neg (by omega), if_pos (by omega)]
        omega

/-! ### Sorted lists of places -/
section
variable (us : Nat → List Nat)

def SortedP (P : List Nat) : Prop := P.Pairwise (fun a b => cmpU (us a) (us b) ≤ 0)
def StrictP (P : List Nat) : Prop := P.Pairwise (fun a b => cmpU (us a) (us b) < 0)

theorem cmpU_lt_of {x y z : List Nat} (h1 : cmpU x y ≤ 0) (h2 : cmpU y z < 0) : cmpU x z < 0 := by
  have h3 := cmpU_le_trans x y z h1 (by omega)
  rcases Int.lt_or_eq_of_le h3 with h | h
  · exact h
  · have e := cmpU_zero _ _ h
    subst e
    have := cmpU_neg x y
    omega

theorem SortedP.insert {A : List Nat} {j i : Nat} (h : SortedP us A) (hd : ∀ x ∈ A.drop j, 0 < cmpU (us x) (us i)) (hj : ∀ k, k + 1 = j → k < A.length → cmpU (us (A.getD k 0)) (us i) ≤ 0) (hjl : j ≤ A.length) : SortedP us (A.take j ++ i :: A.drop j) := by
  unfold SortedP at h ⊢
  have hA : (A.take j ++ A.drop j).Pairwise (fun a b => cmpU (us a) (us b) ≤ 0) := by rw [List.take_append_drop]; exact h
  rw [List.pairwise_append] at hA ⊢
  obtain ⟨h1, h2, h3⟩ := hA
  have ht : ∀ a ∈ A.take j, cmpU (us a) (us i) ≤ 0 := by
    intro a ha
    rcases Nat.eq_zero_or_pos j with e | e
    · subst e; simp at ha
    · have hl := hj (j - 1) (by omega) (by omega)
      rw [List.mem_iff_getElem] at ha
      obtain ⟨k, hk, rfl⟩ := ha
      simp at hk
      rw [List.getElem_take]
      by_cases ek : k = j - 1
      · subst ek
        simpa [List.getD_eq_getElem?_getD, show j - 1 < A.length by omega] using hl
      · have hlt : k < j - 1 := by omega
        have := List.pairwise_iff_getElem.1 h k (j - 1) (by omega) (by omega) hlt
        refine cmpU_le_trans _ _ _ this ?_
        simpa [List.getD_eq_getElem?_getD, show j - 1 < A.length by omega] using hl
  refine ⟨h1, List.pairwise_cons.2 ⟨fun b hb => ?_, h2⟩, ?_⟩
  · have := hd b hb
    rw [cmpU_neg (us b) (us i)]
    omega
  · intro a ha b hb
    rcases List.mem_cons.1 hb with e | e
    · subst e; exact ht a ha
    · exact h3 a ha b e

theorem StrictP.of {P : List Nat} (h : SortedP us P) (hk : ∀ k, k + 1 < P.length → cmpU (us (P.getD k 0)) (us (P.getD (k + 1) 0)) ≠ 0) : StrictP us P := by
  unfold SortedP at h
  unfold StrictP
  rw [List.pairwise_iff_getElem] at h ⊢
  intro i j hi hj hij
  have h1 := h i (i + 1) hi (by omega) (by omega)
  have h2 := hk i (by omega)
  simp only [List.getD_eq_getElem?_getD, List.getElem?_eq_getElem hi, List.getElem?_eq_getElem (show i + 1 < P.length by omega), Option.getD_some] at h2
  have h3 : cmpU (us P[i]) (us P[i + 1]) < 0 := by omega
  by_cases e : i + 1 = j
  · subst e; exact h3
  · have h4 := h (i + 1) j (by omega) hj (by omega)
    have h5 := cmpU_le_trans _ _ _ h1 h4
    rcases Int.lt_or_eq_of_le h5 with c | c
    · exact c
    · have e := cmpU_zero _ _ c
      rw [e] at h3
      have := cmpU_neg (us P[j]) (us P[i + 1])
      omega

theorem StrictP.unique {m : Nat} {P Q : List Nat} (hp : StrictP us P) (hq : StrictP us Q) (pp : P.Perm (List.range m)) (pq : Q.Perm (List.range m)) : P = Q := by
  refine List.Perm.eq_of_pairwise (le := fun a b => cmpU (us a) (us b) < 0) ?_ hp hq (pp.trans pq.symm)
  intro a b _ _ h1 h2
  have := cmpU_neg (us a) (us b)
  omega

/-- Where a permutation is strictly sorted no two places are alike. -/
theorem StrictP.distinct {m : Nat} {P : List Nat} (hp : StrictP us P) (pp : P.Perm (List.range m)) {a b : Nat} (ha : a < m) (hb : b < m) (hne : a ≠ b) : cmpU (us a) (us b) ≠ 0 := by
  have ma : a ∈ P := pp.mem_iff.2 (List.mem_range.2 ha)
  have mb : b ∈ P := pp.mem_iff.2 (List.mem_range.2 hb)
  obtain ⟨i, hi, rfl⟩ := List.mem_iff_getElem.1 ma
  obtain ⟨j, hj, rfl⟩ := List.mem_iff_getElem.1 mb
  rcases Nat.lt_trichotomy i j with h | h | h
  · have := List.pairwise_iff_getElem.1 hp i j hi hj h
    omega
  · subst h; exact absurd rfl hne
  · have := List.pairwise_iff_getElem.1 hp j i hj hi h
    have := cmpU_neg (us P[j]) (us P[i])
    omega
end

end Go.Proofs.Qxb6616638aGreatFmt.Plain
