/-
  PLAIN: the order of two texts in UTF-8 by their UTF-16 code units is the order that CompareUTF16 reckons on their bytes. No Go in sight.
-/
import Derived.Test.Qxb6616638aGreatFmtUtf
namespace Go.Proofs.Qxb6616638aGreatFmt.Plain

/-- The code point of the sequence of length l at p. -/
def cp (bs : Nat → Nat) (p l : Nat) : Nat :=
  if l = 1 then bs p
  else if l = 2 then (bs p - 192) * 64 + (bs (p + 1) - 128)
  else if l = 3 then ((bs p - 224) * 64 + (bs (p + 1) - 128)) * 64 + (bs (p + 2) - 128)
  else (((bs p - 240) * 64 + (bs (p + 1) - 128)) * 64 + (bs (p + 2) - 128)) * 64 + (bs (p + 3) - 128)

/-- Its code units. -/
def un (c : Nat) : List Nat := if 65536 ≤ c then [55296 + (c - 65536) / 1024, 56320 + (c - 65536) % 1024] else [c]

def units (bs : Nat → Nat) : Nat → List Nat → List Nat
  | _, [] => []
  | p, l :: ls => un (cp bs p l) ++ units bs (p + l) ls

/-- The bytes from p on, k of them. -/
def bl (bs : Nat → Nat) : Nat → Nat → List Nat
  | _, 0 => []
  | p, k + 1 => bs p :: bl bs (p + 1) k

theorem bl_length (bs : Nat → Nat) : ∀ (k p : Nat), (bl bs p k).length = k
  | 0, _ => rfl
  | k + 1, p => by simp [bl, bl_length bs k]

theorem bl_append (bs : Nat → Nat) : ∀ (k m p : Nat), bl bs p (k + m) = bl bs p k ++ bl bs (p + k) m
  | 0, m, p => by simp [bl]
  | k + 1, m, p => by
    rw [show k + 1 + m = (k + m) + 1 by omega, bl, bl, bl_append bs k m (p + 1), show p + 1 + k = p + (k + 1) by omega]
    rfl

theorem bl_get (bs : Nat → Nat) : ∀ (k p i : Nat) (h : i < (bl bs p k).length), (bl bs p k)[i] = bs (p + i)
  | 0, p, i, h => by simp [bl] at h
  | k + 1, p, 0, h => by simp [bl]
  | k + 1, p, i + 1, h => by
    simp only [bl, List.getElem_cons_succ]
    rw [bl_get bs k (p + 1) i]
    congr 1
    omega

/-- Lexicographic. -/
def cmpU : List Nat → List Nat → Int
  | [], [] => 0
  | [], _ :: _ => -1
  | _ :: _, [] => 1
  | a :: x, b :: y => if a = b then cmpU x y else if a < b then -1 else 1

/-- CompareUTF16's reckoning. -/
def cmpB : List Nat → List Nat → Int
  | [], [] => 0
  | [], _ :: _ => -1
  | _ :: _, [] => 1
  | a :: x, b :: y => if a = b then cmpB x y else if 238 ≤ a ∧ 238 ≤ b ∧ (240 ≤ a ∧ b < 240 ∨ a < 240 ∧ 240 ≤ b) then (if b < a then -1 else 1) else if a < b then -1 else 1

/-- The order of code points by their first code unit. -/
def ltU (c d : Nat) : Prop := if 65536 ≤ c then (if 65536 ≤ d then c < d else 57344 ≤ d) else (if 65536 ≤ d then c < 57344 else c < d)

theorem cmpU_un (c d : Nat) (x y : List Nat) (hc : c < 55296 ∨ 57344 ≤ c) (hd : d < 55296 ∨ 57344 ≤ d) (hc2 : c < 1114112) (hd2 : d < 1114112) (h : c ≠ d) (r : Int) (hr : (ltU c d ∧ r = -1) ∨ (¬ ltU c d ∧ r = 1)) :
    cmpU (un c ++ x) (un d ++ y) = r := by
  unfold ltU at hr
  unfold un
  by_cases h1 : 65536 ≤ c
  · by_cases h2 : 65536 ≤ d
    · simp only [h1, h2, if_true] at hr ⊢
      simp only [List.cons_append, List.nil_append, cmpU]
      split
      · split
        · omega
        · split <;> omega
      · split <;> omega
    · simp only [h1, h2, if_true, if_false] at hr ⊢
      simp only [List.cons_append, List.nil_append, cmpU]
      split
      · omega
      · split <;> omega
  · by_cases h2 : 65536 ≤ d
    · simp only [h1, h2, if_true, if_false] at hr ⊢
      simp only [List.cons_append, List.nil_append, cmpU]
      split
      · omega
      · split <;> omega
    · simp only [h1, h2, if_false] at hr ⊢
      simp only [List.cons_append, List.nil_append, cmpU]
      split
      · omega
      · split <;> omega

theorem cmpU_same (c : Nat) (x y : List Nat) : cmpU (un c ++ x) (un c ++ y) = cmpU x y := by
  unfold un
  split <;> simp [cmpU]

theorem cp_bounds {bs : Nat → Nat} {p l : Nat} (h : Sq bs p l) : (cp bs p l < 55296 ∨ 57344 ≤ cp bs p l) ∧ cp bs p l < 1114112 := by
  rcases h with h | h | h | h
  · obtain ⟨rfl, h⟩ := h
    simp only [cp, if_true]
    omega
  · obtain ⟨rfl, h⟩ := h
    simp only [cp, if_true]
    simp only [show ¬ (2 = 1) by omega, if_false]
    omega
  · obtain ⟨rfl, h⟩ := h
    simp only [cp, show ¬ (3 = 1) by omega, show ¬ (3 = 2) by omega, if_false, if_true]
    omega
  · obtain ⟨rfl, h⟩ := h
    simp only [cp, show ¬ (4 = 1) by omega, show ¬ (4 = 2) by omega, show ¬ (4 = 3) by omega, if_false]
    omega

end Go.Proofs.Qxb6616638aGreatFmt.Plain
