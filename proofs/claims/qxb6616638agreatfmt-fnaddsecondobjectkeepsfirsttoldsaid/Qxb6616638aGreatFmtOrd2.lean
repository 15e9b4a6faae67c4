/-
  PLAIN: CompareUTF16's reckoning at two characters; the whole order. No Go in sight.
-/
import Derived.Test.Qxb6616638aGreatFmtOrd
namespace Go.Proofs.Qxb6616638aGreatFmt.Plain

theorem ltU_iff (c d : Nat) : ltU c d ↔ (65536 ≤ c ∧ 65536 ≤ d ∧ c < d) ∨ (65536 ≤ c ∧ d < 65536 ∧ 57344 ≤ d) ∨ (c < 65536 ∧ 65536 ≤ d ∧ c < 57344) ∨ (c < 65536 ∧ d < 65536 ∧ c < d) := by
  unfold ltU
  split <;> split <;> omega

/-- What the reckoning says of two characters at the texts' heads. -/
def Said (c d l m : Nat) (r : Int) (r0 : Int) : Prop := (c = d ∧ l = m ∧ r = r0) ∨ (c ≠ d ∧ ((ltU c d ∧ r = -1) ∨ (¬ ltU c d ∧ r = 1)))

theorem cp1 (bs : Nat → Nat) (p : Nat) : cp bs p 1 = bs p := by simp [cp]
theorem cp2 (bs : Nat → Nat) (p : Nat) : cp bs p 2 = (bs p - 192) * 64 + (bs (p + 1) - 128) := by simp [cp]
theorem cp3 (bs : Nat → Nat) (p : Nat) : cp bs p 3 = ((bs p - 224) * 64 + (bs (p + 1) - 128)) * 64 + (bs (p + 2) - 128) := by simp [cp]
theorem cp4 (bs : Nat → Nat) (p : Nat) : cp bs p 4 = (((bs p - 240) * 64 + (bs (p + 1) - 128)) * 64 + (bs (p + 2) - 128)) * 64 + (bs (p + 3) - 128) := by simp [cp]
theorem bl1 (bs : Nat → Nat) (p : Nat) (R : List Nat) : bl bs p 1 ++ R = bs p :: R := rfl
theorem bl2 (bs : Nat → Nat) (p : Nat) (R : List Nat) : bl bs p 2 ++ R = bs p :: bs (p + 1) :: R := rfl
theorem bl3 (bs : Nat → Nat) (p : Nat) (R : List Nat) : bl bs p 3 ++ R = bs p :: bs (p + 1) :: bs (p + 2) :: R := rfl
theorem bl4 (bs : Nat → Nat) (p : Nat) (R : List Nat) : bl bs p 4 ++ R = bs p :: bs (p + 1) :: bs (p + 2) :: bs (p + 3) :: R := rfl

theorem cmpB_eq (a : Nat) (x y : List Nat) : cmpB (a :: x) (a :: y) = cmpB x y := by simp [cmpB]
theorem cmpB_swap {a b : Nat} (x y : List Nat) (h : 238 ≤ a ∧ 238 ≤ b ∧ (240 ≤ a ∧ b < 240 ∨ a < 240 ∧ 240 ≤ b)) : cmpB (a :: x) (b :: y) = if b < a then -1 else 1 := by
  simp only [cmpB]
  rw [if_neg (by omega), if_pos h]
theorem cmpB_lt {a b : Nat} (x y : List Nat) (h : ¬ (238 ≤ a ∧ 238 ≤ b ∧ (240 ≤ a ∧ b < 240 ∨ a < 240 ∧ 240 ≤ b))) (hlt : a < b) : cmpB (a :: x) (b :: y) = -1 := by
  simp only [cmpB]
  rw [if_neg (by omega), if_neg h, if_pos hlt]
theorem cmpB_gt {a b : Nat} (x y : List Nat) (h : ¬ (238 ≤ a ∧ 238 ≤ b ∧ (240 ≤ a ∧ b < 240 ∨ a < 240 ∧ 240 ≤ b))) (hlt : b < a) : cmpB (a :: x) (b :: y) = 1 := by
  simp only [cmpB]
  rw [if_neg (by omega), if_neg h, if_neg (by omega)]

theorem cmpB_11 (bs : Nat → Nat) (p q : Nat) (R S : List Nat) (h : bs p < 128) (h' : bs q < 128) : Said (cp bs p 1) (cp bs q 1) 1 1 (cmpB (bl bs p 1 ++ R) (bl bs q 1 ++ S)) (cmpB R S) := by
  rw [cp1, cp1, bl1, bl1]
  generalize bs p = a0 at *
  generalize bs q = b0 at *
  unfold Said
  rw [ltU_iff]
  by_cases e0 : a0 = b0
  · subst e0
    rw [cmpB_eq]
    exact .inl ⟨rfl, rfl, rfl⟩
  · right
    refine ⟨by omega, ?_⟩
    rcases Nat.lt_or_ge a0 b0 with g | g
    · by_cases sw : 238 ≤ a0 ∧ 238 ≤ b0 ∧ (240 ≤ a0 ∧ b0 < 240 ∨ a0 < 240 ∧ 240 ≤ b0)
      · omega
      · rw [cmpB_lt _ _ sw g]
        omega
    · by_cases sw : 238 ≤ a0 ∧ 238 ≤ b0 ∧ (240 ≤ a0 ∧ b0 < 240 ∨ a0 < 240 ∧ 240 ≤ b0)
      · omega
      · rw [cmpB_gt _ _ sw (by omega)]
        omega

theorem cmpB_12 (bs : Nat → Nat) (p q : Nat) (R S : List Nat) (h : bs p < 128) (h' : 194 ≤ bs q ∧ bs q ≤ 223 ∧ 128 ≤ bs (q + 1) ∧ bs (q + 1) ≤ 191) : Said (cp bs p 1) (cp bs q 2) 1 2 (cmpB (bl bs p 1 ++ R) (bl bs q 2 ++ S)) (cmpB R S) := by
  rw [cp1, cp2, bl1, bl2]
  generalize bs p = a0 at *
  generalize bs q = b0 at *
  generalize bs (q + 1) = b1 at *
  unfold Said
  rw [ltU_iff]
  right
  refine ⟨by omega, ?_⟩
  by_cases sw : 238 ≤ a0 ∧ 238 ≤ b0 ∧ (240 ≤ a0 ∧ b0 < 240 ∨ a0 < 240 ∧ 240 ≤ b0)
  · rw [cmpB_swap _ _ sw]
    split <;> omega
  · rcases Nat.lt_or_ge a0 b0 with g | g
    · rw [cmpB_lt _ _ sw g]
      omega
    · rw [cmpB_gt _ _ sw (by omega)]
      omega

theorem cmpB_13 (bs : Nat → Nat) (p q : Nat) (R S : List Nat) (h : bs p < 128) (h' : 224 ≤ bs q ∧ bs q ≤ 239 ∧ (bs q = 224 → 160 ≤ bs (q + 1)) ∧ (bs q = 237 → bs (q + 1) ≤ 159) ∧ 128 ≤ bs (q + 1) ∧ bs (q + 1) ≤ 191 ∧ 128 ≤ bs (q + 2) ∧ bs (q + 2) ≤ 191) : Said (cp bs p 1) (cp bs q 3) 1 3 (cmpB (bl bs p 1 ++ R) (bl bs q 3 ++ S)) (cmpB R S) := by
  rw [cp1, cp3, bl1, bl3]
  generalize bs p = a0 at *
  generalize bs q = b0 at *
  generalize bs (q + 1) = b1 at *
  generalize bs (q + 2) = b2 at *
  unfold Said
  rw [ltU_iff]
  right
  refine ⟨by omega, ?_⟩
  by_cases sw : 238 ≤ a0 ∧ 238 ≤ b0 ∧ (240 ≤ a0 ∧ b0 < 240 ∨ a0 < 240 ∧ 240 ≤ b0)
  · rw [cmpB_swap _ _ sw]
    split <;> omega
  · rcases Nat.lt_or_ge a0 b0 with g | g
    · rw [cmpB_lt _ _ sw g]
      omega
    · rw [cmpB_gt _ _ sw (by omega)]
      omega

theorem cmpB_14 (bs : Nat → Nat) (p q : Nat) (R S : List Nat) (h : bs p < 128) (h' : 240 ≤ bs q ∧ bs q ≤ 244 ∧ (bs q = 240 → 144 ≤ bs (q + 1)) ∧ (bs q = 244 → bs (q + 1) ≤ 143) ∧ 128 ≤ bs (q + 1) ∧ bs (q + 1) ≤ 191 ∧ 128 ≤ bs (q + 2) ∧ bs (q + 2) ≤ 191 ∧ 128 ≤ bs (q + 3) ∧ bs (q + 3) ≤ 191) : Said (cp bs p 1) (cp bs q 4) 1 4 (cmpB (bl bs p 1 ++ R) (bl bs q 4 ++ S)) (cmpB R S) := by
  rw [cp1, cp4, bl1, bl4]
  generalize bs p = a0 at *
  generalize bs q = b0 at *
  generalize bs (q + 1) = b1 at *
  generalize bs (q + 2) = b2 at *
  generalize bs (q + 3) = b3 at *
  unfold Said
  rw [ltU_iff]
  right
  refine ⟨by omega, ?_⟩
  by_cases sw : 238 ≤ a0 ∧ 238 ≤ b0 ∧ (240 ≤ a0 ∧ b0 < 240 ∨ a0 < 240 ∧ 240 ≤ b0)
  · rw [cmpB_swap _ _ sw]
    split <;> omega
  · rcases Nat.lt_or_ge a0 b0 with g | g
    · rw [cmpB_lt _ _ sw g]
      omega
    · rw [cmpB_gt _ _ sw (by omega)]
      omega

theorem cmpB_21 (bs : Nat → Nat) (p q : Nat) (R S : List Nat) (h : 194 ≤ bs p ∧ bs p ≤ 223 ∧ 128 ≤ bs (p + 1) ∧ bs (p + 1) ≤ 191) (h' : bs q < 128) : Said (cp bs p 2) (cp bs q 1) 2 1 (cmpB (bl bs p 2 ++ R) (bl bs q 1 ++ S)) (cmpB R S) := by
  rw [cp2, cp1, bl2, bl1]
  generalize bs p = a0 at *
  generalize bs (p + 1) = a1 at *
  generalize bs q = b0 at *
  unfold Said
  rw [ltU_iff]
  right
  refine ⟨by omega, ?_⟩
  by_cases sw : 238 ≤ a0 ∧ 238 ≤ b0 ∧ (240 ≤ a0 ∧ b0 < 240 ∨ a0 < 240 ∧ 240 ≤ b0)
  · rw [cmpB_swap _ _ sw]
    split <;> omega
  · rcases Nat.lt_or_ge a0 b0 with g | g
    · rw [cmpB_lt _ _ sw g]
      omega
    · rw [cmpB_gt _ _ sw (by omega)]
      omega

theorem cmpB_22 (bs : Nat → Nat) (p q : Nat) (R S : List Nat) (h : 194 ≤ bs p ∧ bs p ≤ 223 ∧ 128 ≤ bs (p + 1) ∧ bs (p + 1) ≤ 191) (h' : 194 ≤ bs q ∧ bs q ≤ 223 ∧ 128 ≤ bs (q + 1) ∧ bs (q + 1) ≤ 191) : Said (cp bs p 2) (cp bs q 2) 2 2 (cmpB (bl bs p 2 ++ R) (bl bs q 2 ++ S)) (cmpB R S) := by
  rw [cp2, cp2, bl2, bl2]
  generalize bs p = a0 at *
  generalize bs (p + 1) = a1 at *
  generalize bs q = b0 at *
  generalize bs (q + 1) = b1 at *
  unfold Said
  rw [ltU_iff]
  by_cases e0 : a0 = b0
  · subst e0
    rw [cmpB_eq]
    by_cases e1 : a1 = b1
    · subst e1
      rw [cmpB_eq]
      exact .inl ⟨rfl, rfl, rfl⟩
    · right
      refine ⟨by omega, ?_⟩
      rcases Nat.lt_or_ge a1 b1 with g | g
      · by_cases sw : 238 ≤ a1 ∧ 238 ≤ b1 ∧ (240 ≤ a1 ∧ b1 < 240 ∨ a1 < 240 ∧ 240 ≤ b1)
        · omega
        · rw [cmpB_lt _ _ sw g]
          omega
      · by_cases sw : 238 ≤ a1 ∧ 238 ≤ b1 ∧ (240 ≤ a1 ∧ b1 < 240 ∨ a1 < 240 ∧ 240 ≤ b1)
        · omega
        · rw [cmpB_gt _ _ sw (by omega)]
          omega
  · right
    refine ⟨by omega, ?_⟩
    rcases Nat.lt_or_ge a0 b0 with g | g
    · by_cases sw : 238 ≤ a0 ∧ 238 ≤ b0 ∧ (240 ≤ a0 ∧ b0 < 240 ∨ a0 < 240 ∧ 240 ≤ b0)
      · omega
      · rw [cmpB_lt _ _ sw g]
        omega
    · by_cases sw : 238 ≤ a0 ∧ 238 ≤ b0 ∧ (240 ≤ a0 ∧ b0 < 240 ∨ a0 < 240 ∧ 240 ≤ b0)
      · omega
      · rw [cmpB_gt _ _ sw (by omega)]
        omega

theorem cmpB_23 (bs : Nat → Nat) (p q : Nat) (R S : List Nat) (h : 194 ≤ bs p ∧ bs p ≤ 223 ∧ 128 ≤ bs (p + 1) ∧ bs (p + 1) ≤ 191) (h' : 224 ≤ bs q ∧ bs q ≤ 239 ∧ (bs q = 224 → 160 ≤ bs (q + 1)) ∧ (bs q = 237 → bs (q + 1) ≤ 159) ∧ 128 ≤ bs (q + 1) ∧ bs (q + 1) ≤ 191 ∧ 128 ≤ bs (q + 2) ∧ bs (q + 2) ≤ 191) : Said (cp bs p 2) (cp bs q 3) 2 3 (cmpB (bl bs p 2 ++ R) (bl bs q 3 ++ S)) (cmpB R S) := by
  rw [cp2, cp3, bl2, bl3]
  generalize bs p = a0 at *
  generalize bs (p + 1) = a1 at *
  generalize bs q = b0 at *
  generalize bs (q + 1) = b1 at *
  generalize bs (q + 2) = b2 at *
  unfold Said
  rw [ltU_iff]
  right
  refine ⟨by omega, ?_⟩
  by_cases sw : 238 ≤ a0 ∧ 238 ≤ b0 ∧ (240 ≤ a0 ∧ b0 < 240 ∨ a0 < 240 ∧ 240 ≤ b0)
  · rw [cmpB_swap _ _ sw]
    split <;> omega
  · rcases Nat.lt_or_ge a0 b0 with g | g
    · rw [cmpB_lt _ _ sw g]
      omega
    · rw [cmpB_gt _ _ sw (by omega)]
      omega

theorem cmpB_24 (bs : Nat → Nat) (p q : Nat) (R S : List Nat) (h : 194 ≤ bs p ∧ bs p ≤ 223 ∧ 128 ≤ bs (p + 1) ∧ bs (p + 1) ≤ 191) (h' : 240 ≤ bs q ∧ bs q ≤ 244 ∧ (bs q = 240 → 144 ≤ bs (q + 1)) ∧ (bs q = 244 → bs (q + 1) ≤ 143) ∧ 128 ≤ bs (q + 1) ∧ bs (q + 1) ≤ 191 ∧ 128 ≤ bs (q + 2) ∧ bs (q + 2) ≤ 191 ∧ 128 ≤ bs (q + 3) ∧ bs (q + 3) ≤ 191) : Said (cp bs p 2) (cp bs q 4) 2 4 (cmpB (bl bs p 2 ++ R) (bl bs q 4 ++ S)) (cmpB R S) := by
  rw [cp2, cp4, bl2, bl4]
  generalize bs p = a0 at *
  generalize bs (p + 1) = a1 at *
  generalize bs q = b0 at *
  generalize bs (q + 1) = b1 at *
  generalize bs (q + 2) = b2 at *
  generalize bs (q + 3) = b3 at *
  unfold Said
  rw [ltU_iff]
  right
  refine ⟨by omega, ?_⟩
  by_cases sw : 238 ≤ a0 ∧ 238 ≤ b0 ∧ (240 ≤ a0 ∧ b0 < 240 ∨ a0 < 240 ∧ 240 ≤ b0)
  · rw [cmpB_swap _ _ sw]
    split <;> omega
  · rcases Nat.lt_or_ge a0 b0 with g | g
    · rw [cmpB_lt _ _ sw g]
      omega
    · rw [cmpB_gt _ _ sw (by omega)]
      omega

theorem cmpB_31 (bs : Nat → Nat) (p q : Nat) (R S : List Nat) (h : 224 ≤ bs p ∧ bs p ≤ 239 ∧ (bs p = 224 → 160 ≤ bs (p + 1)) ∧ (bs p = 237 → bs (p + 1) ≤ 159) ∧ 128 ≤ bs (p + 1) ∧ bs (p + 1) ≤ 191 ∧ 128 ≤ bs (p + 2) ∧ bs (p + 2) ≤ 191) (h' : bs q < 128) : Said (cp bs p 3) (cp bs q 1) 3 1 (cmpB (bl bs p 3 ++ R) (bl bs q 1 ++ S)) (cmpB R S) := by
  rw [cp3, cp1, bl3, bl1]
  generalize bs p = a0 at *
  generalize bs (p + 1) = a1 at *
  generalize bs (p + 2) = a2 at *
  generalize bs q = b0 at *
  unfold Said
  rw [ltU_iff]
  right
  refine ⟨by omega, ?_⟩
  by_cases sw : 238 ≤ a0 ∧ 238 ≤ b0 ∧ (240 ≤ a0 ∧ b0 < 240 ∨ a0 < 240 ∧ 240 ≤ b0)
  · rw [cmpB_swap _ _ sw]
    split <;> omega
  · rcases Nat.lt_or_ge a0 b0 with g | g
    · rw [cmpB_lt _ _ sw g]
      omega
    · rw [cmpB_gt _ _ sw (by omega)]
      omega

theorem cmpB_32 (bs : Nat → Nat) (p q : Nat) (R S : List Nat) (h : 224 ≤ bs p ∧ bs p ≤ 239 ∧ (bs p = 224 → 160 ≤ bs (p + 1)) ∧ (bs p = 237 → bs (p + 1) ≤ 159) ∧ 128 ≤ bs (p + 1) ∧ bs (p + 1) ≤ 191 ∧ 128 ≤ bs (p + 2) ∧ bs (p + 2) ≤ 191) (h' : 194 ≤ bs q ∧ bs q ≤ 223 ∧ 128 ≤ bs (q + 1) ∧ bs (q + 1) ≤ 191) : Said (cp bs p 3) (cp bs q 2) 3 2 (cmpB (bl bs p 3 ++ R) (bl bs q 2 ++ S)) (cmpB R S) := by
  rw [cp3, cp2, bl3, bl2]
  generalize bs p = a0 at *
  generalize bs (p + 1) = a1 at *
  generalize bs (p + 2) = a2 at *
  generalize bs q = b0 at *
  generalize bs (q + 1) = b1 at *
  unfold Said
  rw [ltU_iff]
  right
  refine ⟨by omega, ?_⟩
  by_cases sw : 238 ≤ a0 ∧ 238 ≤ b0 ∧ (240 ≤ a0 ∧ b0 < 240 ∨ a0 < 240 ∧ 240 ≤ b0)
  · rw [cmpB_swap _ _ sw]
    split <;> omega
  · rcases Nat.lt_or_ge a0 b0 with g | g
    · rw [cmpB_lt _ _ sw g]
      omega
    · rw [cmpB_gt _ _ sw (by omega)]
      omega

theorem cmpB_33 (bs : Nat → Nat) (p q : Nat) (R S : List Nat) (h : 224 ≤ bs p ∧ bs p ≤ 239 ∧ (bs p = 224 → 160 ≤ bs (p + 1)) ∧ (bs p = 237 → bs (p + 1) ≤ 159) ∧ 128 ≤ bs (p + 1) ∧ bs (p + 1) ≤ 191 ∧ 128 ≤ bs (p + 2) ∧ bs (p + 2) ≤ 191) (h' : 224 ≤ bs q ∧ bs q ≤ 239 ∧ (bs q = 224 → 160 ≤ bs (q + 1)) ∧ (bs q = 237 → bs (q + 1) ≤ 159) ∧ 128 ≤ bs (q + 1) ∧ bs (q + 1) ≤ 191 ∧ 128 ≤ bs (q + 2) ∧ bs (q + 2) ≤ 191) : Said (cp bs p 3) (cp bs q 3) 3 3 (cmpB (bl bs p 3 ++ R) (bl bs q 3 ++ S)) (cmpB R S) := by
  rw [cp3, cp3, bl3, bl3]
  generalize bs p = a0 at *
  generalize bs (p + 1) = a1 at *
  generalize bs (p + 2) = a2 at *
  generalize bs q = b0 at *
  generalize bs (q + 1) = b1 at *
  generalize bs (q + 2) = b2 at *
  unfold Said
  rw [ltU_iff]
  by_cases e0 : a0 = b0
  · subst e0
    rw [cmpB_eq]
    by_cases e1 : a1 = b1
    · subst e1
      rw [cmpB_eq]
      by_cases e2 : a2 = b2
      · subst e2
        rw [cmpB_eq]
        exact .inl ⟨rfl, rfl, rfl⟩
      · right
        refine ⟨by omega, ?_⟩
        rcases Nat.lt_or_ge a2 b2 with g | g
        · by_cases sw : 238 ≤ a2 ∧ 238 ≤ b2 ∧ (240 ≤ a2 ∧ b2 < 240 ∨ a2 < 240 ∧ 240 ≤ b2)
          · omega
          · rw [cmpB_lt _ _ sw g]
            omega
        · by_cases sw : 238 ≤ a2 ∧ 238 ≤ b2 ∧ (240 ≤ a2 ∧ b2 < 240 ∨ a2 < 240 ∧ 240 ≤ b2)
          · omega
          · rw [cmpB_gt _ _ sw (by omega)]
            omega
    · right
      refine ⟨by omega, ?_⟩
      rcases Nat.lt_or_ge a1 b1 with g | g
      · by_cases sw : 238 ≤ a1 ∧ 238 ≤ b1 ∧ (240 ≤ a1 ∧ b1 < 240 ∨ a1 < 240 ∧ 240 ≤ b1)
        · omega
        · rw [cmpB_lt _ _ sw g]
          omega
      · by_cases sw : 238 ≤ a1 ∧ 238 ≤ b1 ∧ (240 ≤ a1 ∧ b1 < 240 ∨ a1 < 240 ∧ 240 ≤ b1)
        · omega
        · rw [cmpB_gt _ _ sw (by omega)]
          omega
  · right
    refine ⟨by omega, ?_⟩
    rcases Nat.lt_or_ge a0 b0 with g | g
    · by_cases sw : 238 ≤ a0 ∧ 238 ≤ b0 ∧ (240 ≤ a0 ∧ b0 < 240 ∨ a0 < 240 ∧ 240 ≤ b0)
      · omega
      · rw [cmpB_lt _ _ sw g]
        omega
    · by_cases sw : 238 ≤ a0 ∧ 238 ≤ b0 ∧ (240 ≤ a0 ∧ b0 < 240 ∨ a0 < 240 ∧ 240 ≤ b0)
      · omega
      · rw [cmpB_gt _ _ sw (by omega)]
        omega

theorem cmpB_34 (bs : Nat → Nat) (p q : Nat) (R S : List Nat) (h : 224 ≤ bs p ∧ bs p ≤ 239 ∧ (bs p = 224 → 160 ≤ bs (p + 1)) ∧ (bs p = 237 → bs (p + 1) ≤ 159) ∧ 128 ≤ bs (p + 1) ∧ bs (p + 1) ≤ 191 ∧ 128 ≤ bs (p + 2) ∧ bs (p + 2) ≤ 191) (h' : 240 ≤ bs q ∧ bs q ≤ 244 ∧ (bs q = 240 → 144 ≤ bs (q + 1)) ∧ (bs q = 244 → bs (q + 1) ≤ 143) ∧ 128 ≤ bs (q + 1) ∧ bs (q + 1) ≤ 191 ∧ 128 ≤ bs (q + 2) ∧ bs (q + 2) ≤ 191 ∧ 128 ≤ bs (q + 3) ∧ bs (q + 3) ≤ 191) : Said (cp bs p 3) (cp bs q 4) 3 4 (cmpB (bl bs p 3 ++ R) (bl bs q 4 ++ S)) (cmpB R S) := by
  rw [cp3, cp4, bl3, bl4]
  generalize bs p = a0 at *
  generalize bs (p + 1) = a1 at *
  generalize bs (p + 2) = a2 at *
  generalize bs q = b0 at *
  generalize bs (q + 1) = b1 at *
  generalize bs (q + 2) = b2 at *
  generalize bs (q + 3) = b3 at *
  unfold Said
  rw [ltU_iff]
  right
  refine ⟨by omega, ?_⟩
  by_cases sw : 238 ≤ a0 ∧ 238 ≤ b0 ∧ (240 ≤ a0 ∧ b0 < 240 ∨ a0 < 240 ∧ 240 ≤ b0)
  · rw [cmpB_swap _ _ sw]
    split <;> omega
  · rcases Nat.lt_or_ge a0 b0 with g | g
    · rw [cmpB_lt _ _ sw g]
      omega
    · rw [cmpB_gt _ _ sw (by omega)]
      omega

theorem cmpB_41 (bs : Nat → Nat) (p q : Nat) (R S : List Nat) (h : 240 ≤ bs p ∧ bs p ≤ 244 ∧ (bs p = 240 → 144 ≤ bs (p + 1)) ∧ (bs p = 244 → bs (p + 1) ≤ 143) ∧ 128 ≤ bs (p + 1) ∧ bs (p + 1) ≤ 191 ∧ 128 ≤ bs (p + 2) ∧ bs (p + 2) ≤ 191 ∧ 128 ≤ bs (p + 3) ∧ bs (p + 3) ≤ 191) (h' : bs q < 128) : Said (cp bs p 4) (cp bs q 1) 4 1 (cmpB (bl bs p 4 ++ R) (bl bs q 1 ++ S)) (cmpB R S) := by
  rw [cp4, cp1, bl4, bl1]
  generalize bs p = a0 at *
  generalize bs (p + 1) = a1 at *
  generalize bs (p + 2) = a2 at *
  generalize bs (p + 3) = a3 at *
  generalize bs q = b0 at *
  unfold Said
  rw [ltU_iff]
  right
  refine ⟨by omega, ?_⟩
  by_cases sw : 238 ≤ a0 ∧ 238 ≤ b0 ∧ (240 ≤ a0 ∧ b0 < 240 ∨ a0 < 240 ∧ 240 ≤ b0)
  · rw [cmpB_swap _ _ sw]
    split <;> omega
  · rcases Nat.lt_or_ge a0 b0 with g | g
    · rw [cmpB_lt _ _ sw g]
      omega
    · rw [cmpB_gt _ _ sw (by omega)]
      omega

theorem cmpB_42 (bs : Nat → Nat) (p q : Nat) (R S : List Nat) (h : 240 ≤ bs p ∧ bs p ≤ 244 ∧ (bs p = 240 → 144 ≤ bs (p + 1)) ∧ (bs p = 244 → bs (p + 1) ≤ 143) ∧ 128 ≤ bs (p + 1) ∧ bs (p + 1) ≤ 191 ∧ 128 ≤ bs (p + 2) ∧ bs (p + 2) ≤ 191 ∧ 128 ≤ bs (p + 3) ∧ bs (p + 3) ≤ 191) (h' : 194 ≤ bs q ∧ bs q ≤ 223 ∧ 128 ≤ bs (q + 1) ∧ bs (q + 1) ≤ 191) : Said (cp bs p 4) (cp bs q 2) 4 2 (cmpB (bl bs p 4 ++ R) (bl bs q 2 ++ S)) (cmpB R S) := by
  rw [cp4, cp2, bl4, bl2]
  generalize bs p = a0 at *
  generalize bs (p + 1) = a1 at *
  generalize bs (p + 2) = a2 at *
  generalize bs (p + 3) = a3 at *
  generalize bs q = b0 at *
  generalize bs (q + 1) = b1 at *
  unfold Said
  rw [ltU_iff]
  right
  refine ⟨by omega, ?_⟩
  by_cases sw : 238 ≤ a0 ∧ 238 ≤ b0 ∧ (240 ≤ a0 ∧ b0 < 240 ∨ a0 < 240 ∧ 240 ≤ b0)
  · rw [cmpB_swap _ _ sw]
    split <;> omega
  · rcases Nat.lt_or_ge a0 b0 with g | g
    · rw [cmpB_lt _ _ sw g]
      omega
    · rw [cmpB_gt _ _ sw (by omega)]
      omega

theorem cmpB_43 (bs : Nat → Nat) (p q : Nat) (R S : List Nat) (h : 240 ≤ bs p ∧ bs p ≤ 244 ∧ (bs p = 240 → 144 ≤ bs (p + 1)) ∧ (bs p = 244 → bs (p + 1) ≤ 143) ∧ 128 ≤ bs (p + 1) ∧ bs (p + 1) ≤ 191 ∧ 128 ≤ bs (p + 2) ∧ bs (p + 2) ≤ 191 ∧ 128 ≤ bs (p + 3) ∧ bs (p + 3) ≤ 191) (h' : 224 ≤ bs q ∧ bs q ≤ 239 ∧ (bs q = 224 → 160 ≤ bs (q + 1)) ∧ (bs q = 237 → bs (q + 1) ≤ 159) ∧ 128 ≤ bs (q + 1) ∧ bs (q + 1) ≤ 191 ∧ 128 ≤ bs (q + 2) ∧ bs (q + 2) ≤ 191) : Said (cp bs p 4) (cp bs q 3) 4 3 (cmpB (bl bs p 4 ++ R) (bl bs q 3 ++ S)) (cmpB R S) := by
  rw [cp4, cp3, bl4, bl3]
  generalize bs p = a0 at *
  generalize bs (p + 1) = a1 at *
  generalize bs (p + 2) = a2 at *
  generalize bs (p + 3) = a3 at *
  generalize bs q = b0 at *
  generalize bs (q + 1) = b1 at *
  generalize bs (q + 2) = b2 at *
  unfold Said
  rw [ltU_iff]
  right
  refine ⟨by omega, ?_⟩
  by_cases sw : 238 ≤ a0 ∧ 238 ≤ b0 ∧ (240 ≤ a0 ∧ b0 < 240 ∨ a0 < 240 ∧ 240 ≤ b0)
  · rw [cmpB_swap _ _ sw]
    split <;> omega
  · rcases Nat.lt_or_ge a0 b0 with g | g
    · rw [cmpB_lt _ _ sw g]
      omega
    · rw [cmpB_gt _ _ sw (by omega)]
      omega

theorem cmpB_44 (bs : Nat → Nat) (p q : Nat) (R S : List Nat) (h : 240 ≤ bs p ∧ bs p ≤ 244 ∧ (bs p = 240 → 144 ≤ bs (p + 1)) ∧ (bs p = 244 → bs (p + 1) ≤ 143) ∧ 128 ≤ bs (p + 1) ∧ bs (p + 1) ≤ 191 ∧ 128 ≤ bs (p + 2) ∧ bs (p + 2) ≤ 191 ∧ 128 ≤ bs (p + 3) ∧ bs (p + 3) ≤ 191) (h' : 240 ≤ bs q ∧ bs q ≤ 244 ∧ (bs q = 240 → 144 ≤ bs (q + 1)) ∧ (bs q = 244 → bs (q + 1) ≤ 143) ∧ 128 ≤ bs (q + 1) ∧ bs (q + 1) ≤ 191 ∧ 128 ≤ bs (q + 2) ∧ bs (q + 2) ≤ 191 ∧ 128 ≤ bs (q + 3) ∧ bs (q + 3) ≤ 191) : Said (cp bs p 4) (cp bs q 4) 4 4 (cmpB (bl bs p 4 ++ R) (bl bs q 4 ++ S)) (cmpB R S) := by
  rw [cp4, cp4, bl4, bl4]
  generalize bs p = a0 at *
  generalize bs (p + 1) = a1 at *
  generalize bs (p + 2) = a2 at *
  generalize bs (p + 3) = a3 at *
  generalize bs q = b0 at *
  generalize bs (q + 1) = b1 at *
  generalize bs (q + 2) = b2 at *
  generalize bs (q + 3) = b3 at *
  unfold Said
  rw [ltU_iff]
  by_cases e0 : a0 = b0
  · subst e0
    rw [cmpB_eq]
    by_cases e1 : a1 = b1
    · subst e1
      rw [cmpB_eq]
      by_cases e2 : a2 = b2
      · subst e2
        rw [cmpB_eq]
        by_cases e3 : a3 = b3
        · subst e3
          rw [cmpB_eq]
          exact .inl ⟨rfl, rfl, rfl⟩
        · right
          refine ⟨by omega, ?_⟩
          rcases Nat.lt_or_ge a3 b3 with g | g
          · by_cases sw : 238 ≤ a3 ∧ 238 ≤ b3 ∧ (240 ≤ a3 ∧ b3 < 240 ∨ a3 < 240 ∧ 240 ≤ b3)
            · omega
            · rw [cmpB_lt _ _ sw g]
              omega
          · by_cases sw : 238 ≤ a3 ∧ 238 ≤ b3 ∧ (240 ≤ a3 ∧ b3 < 240 ∨ a3 < 240 ∧ 240 ≤ b3)
            · omega
            · rw [cmpB_gt _ _ sw (by omega)]
              omega
      · right
        refine ⟨by omega, ?_⟩
        rcases Nat.lt_or_ge a2 b2 with g | g
        · by_cases sw : 238 ≤ a2 ∧ 238 ≤ b2 ∧ (240 ≤ a2 ∧ b2 < 240 ∨ a2 < 240 ∧ 240 ≤ b2)
          · omega
          · rw [cmpB_lt _ _ sw g]
            omega
        · by_cases sw : 238 ≤ a2 ∧ 238 ≤ b2 ∧ (240 ≤ a2 ∧ b2 < 240 ∨ a2 < 240 ∧ 240 ≤ b2)
          · omega
          · rw [cmpB_gt _ _ sw (by omega)]
            omega
    · right
      refine ⟨by omega, ?_⟩
      rcases Nat.lt_or_ge a1 b1 with g | g
      · by_cases sw : 238 ≤ a1 ∧ 238 ≤ b1 ∧ (240 ≤ a1 ∧ b1 < 240 ∨ a1 < 240 ∧ 240 ≤ b1)
        · omega
        · rw [cmpB_lt _ _ sw g]
          omega
      · by_cases sw : 238 ≤ a1 ∧ 238 ≤ b1 ∧ (240 ≤ a1 ∧ b1 < 240 ∨ a1 < 240 ∧ 240 ≤ b1)
        · omega
        · rw [cmpB_gt _ _ sw (by omega)]
          omega
  · right
    refine ⟨by omega, ?_⟩
    rcases Nat.lt_or_ge a0 b0 with g | g
    · by_cases sw : 238 ≤ a0 ∧ 238 ≤ b0 ∧ (240 ≤ a0 ∧ b0 < 240 ∨ a0 < 240 ∧ 240 ≤ b0)
      · omega
      · rw [cmpB_lt _ _ sw g]
        omega
    · by_cases sw : 238 ≤ a0 ∧ 238 ≤ b0 ∧ (240 ≤ a0 ∧ b0 < 240 ∨ a0 < 240 ∧ 240 ≤ b0)
      · omega
      · rw [cmpB_gt _ _ sw (by omega)]
        omega

theorem cmpB_chr (bs : Nat → Nat) (p q l m : Nat) (R S : List Nat) (h : Sq bs p l) (h' : Sq bs q m) : Said (cp bs p l) (cp bs q m) l m (cmpB (bl bs p l ++ R) (bl bs q m ++ S)) (cmpB R S) := by
  rcases h with ⟨rfl, h⟩ | ⟨rfl, h⟩ | ⟨rfl, h⟩ | ⟨rfl, h⟩ <;> rcases h' with ⟨rfl, h'⟩ | ⟨rfl, h'⟩ | ⟨rfl, h'⟩ | ⟨rfl, h'⟩
  · exact cmpB_11 bs p q R S h h'
  · exact cmpB_12 bs p q R S h h'
  · exact cmpB_13 bs p q R S h h'
  · exact cmpB_14 bs p q R S h h'
  · exact cmpB_21 bs p q R S h h'
  · exact cmpB_22 bs p q R S h h'
  · exact cmpB_23 bs p q R S h h'
  · exact cmpB_24 bs p q R S h h'
  · exact cmpB_31 bs p q R S h h'
  · exact cmpB_32 bs p q R S h h'
  · exact cmpB_33 bs p q R S h h'
  · exact cmpB_34 bs p q R S h h'
  · exact cmpB_41 bs p q R S h h'
  · exact cmpB_42 bs p q R S h h'
  · exact cmpB_43 bs p q R S h h'
  · exact cmpB_44 bs p q R S h h'

theorem un_ne (c : Nat) : un c ≠ [] := by
  unfold un
  split <;> simp

theorem bl_pos (bs : Nat → Nat) (p l : Nat) (h : 0 < l) (R : List Nat) : ∃ x r, bl bs p l ++ R = x :: r := by
  obtain ⟨k, rfl⟩ : ∃ k, l = k + 1 := ⟨l - 1, by omega⟩
  exact ⟨_, _, rfl⟩

theorem un_pos (c : Nat) (R : List Nat) : ∃ x r, un c ++ R = x :: r := by
  unfold un
  split
  · exact ⟨_, _, rfl⟩
  · exact ⟨_, _, rfl⟩

/-- THE TWO ORDERS ARE ONE. -/
theorem cmp_one (bs : Nat → Nat) : ∀ (ls ms : List Nat) (p q p' q' : Nat), Chars bs p ls p' → Chars bs q ms q' → cmpB (bl bs p (p' - p)) (bl bs q (q' - q)) = cmpU (units bs p ls) (units bs q ms)
  | [], [], p, q, p', q', h, h' => by
    simp only [Chars] at h h'
    subst h; subst h'
    simp [bl, units, cmpB, cmpU]
  | [], m :: ms, p, q, p', q', h, h' => by
    simp only [Chars] at h
    subst h
    have hp := h'.1.1.pos
    have hle := Chars.le h'.2
    have e : q' - q = m + (q' - (q + m)) := by omega
    obtain ⟨x, r, hx⟩ := bl_pos bs q m hp (bl bs (q + m) (q' - (q + m)))
    obtain ⟨y, t, hy⟩ := un_pos (cp bs q m) (units bs (q + m) ms)
    rw [e, bl_append, hx, units, units, hy]
    simp [bl, cmpB, cmpU]
  | l :: ls, [], p, q, p', q', h, h' => by
    simp only [Chars] at h'
    subst h'
    have hp := h.1.1.pos
    have hle := Chars.le h.2
    have e : p' - p = l + (p' - (p + l)) := by omega
    obtain ⟨x, r, hx⟩ := bl_pos bs p l hp (bl bs (p + l) (p' - (p + l)))
    obtain ⟨y, t, hy⟩ := un_pos (cp bs p l) (units bs (p + l) ls)
    rw [e, bl_append, hx, units, units, hy]
    simp [bl, cmpB, cmpU]
  | l :: ls, m :: ms, p, q, p', q', h, h' => by
    have hle := Chars.le h.2
    have hle' := Chars.le h'.2
    have e : p' - p = l + (p' - (p + l)) := by omega
    have e' : q' - q = m + (q' - (q + m)) := by omega
    have ih := cmp_one bs ls ms (p + l) (q + m) p' q' h.2 h'.2
    have hs := cmpB_chr bs p q l m (bl bs (p + l) (p' - (p + l))) (bl bs (q + m) (q' - (q + m))) h.1.1 h'.1.1
    rw [← bl_append, ← bl_append, ← e, ← e'] at hs
    rw [units, units]
    rcases hs with ⟨hc, _, hr⟩ | ⟨hne, hr⟩
    · rw [hr, ih, hc, cmpU_same]
    · have b1 := cp_bounds h.1.1
      have b2 := cp_bounds h'.1.1
      exact (cmpU_un _ _ _ _ b1.1 b2.1 b1.2 b2.2 hne _ hr).symm

end Go.Proofs.Qxb6616638aGreatFmt.Plain
