/-
  PLAIN: what the law's reader takes for a character of UTF-8, and for a name's text. No Go in sight. 'bs': the text's bytes.
-/
namespace Go.Proofs.Qxb6616638aGreatFmt.Plain

/-- A sequence of UTF-8 of length l lies at p. -/
def Sq (bs : Nat → Nat) (p l : Nat) : Prop :=
  (l = 1 ∧ bs p < 128) ∨
  (l = 2 ∧ 194 ≤ bs p ∧ bs p ≤ 223 ∧ 128 ≤ bs (p + 1) ∧ bs (p + 1) ≤ 191) ∨
  (l = 3 ∧ 224 ≤ bs p ∧ bs p ≤ 239 ∧ (bs p = 224 → 160 ≤ bs (p + 1)) ∧ (bs p = 237 → bs (p + 1) ≤ 159) ∧ 128 ≤ bs (p + 1) ∧ bs (p + 1) ≤ 191 ∧ 128 ≤ bs (p + 2) ∧ bs (p + 2) ≤ 191) ∨
  (l = 4 ∧ 240 ≤ bs p ∧ bs p ≤ 244 ∧ (bs p = 240 → 144 ≤ bs (p + 1)) ∧ (bs p = 244 → bs (p + 1) ≤ 143) ∧ 128 ≤ bs (p + 1) ∧ bs (p + 1) ≤ 191 ∧ 128 ≤ bs (p + 2) ∧ bs (p + 2) ≤ 191 ∧ 128 ≤ bs (p + 3) ∧ bs (p + 3) ≤ 191)

/-- A character of a name: no quote, no backslash, no control byte. -/
def Chr (bs : Nat → Nat) (p l : Nat) : Prop := Sq bs p l ∧ 32 ≤ bs p ∧ bs p ≠ 34 ∧ bs p ≠ 92

/-- The characters of lengths ls lie from p to q. -/
def Chars (bs : Nat → Nat) : Nat → List Nat → Nat → Prop
  | p, [], q => p = q
  | p, l :: ls, q => Chr bs p l ∧ Chars bs (p + l) ls q

/-- A string, its quotes at i and e - 1. -/
def Str (bs : Nat → Nat) (n i e : Nat) : Prop := i + 2 ≤ e ∧ e ≤ n ∧ ∃ ls, Chars bs (i + 1) ls (e - 1)

theorem Chars.snoc {bs : Nat → Nat} {l q : Nat} : ∀ {p : Nat} {ls : List Nat}, Chars bs p ls q → Chr bs q l → Chars bs p (ls ++ [l]) (q + l)
  | p, [], h, hc => by
    simp only [Chars] at h
    subst h
    exact ⟨hc, rfl⟩
  | p, m :: ls, h, hc => ⟨h.1, h.2.snoc hc⟩

theorem Sq.pos {bs : Nat → Nat} {p l : Nat} (h : Sq bs p l) : 0 < l := by
  rcases h with h | h | h | h <;> omega

theorem Chars.le {bs : Nat → Nat} {q : Nat} : ∀ {p : Nat} {ls : List Nat}, Chars bs p ls q → p ≤ q
  | p, [], h => by
    simp only [Chars] at h
    omega
  | p, m :: ls, h => by
    have := Chars.le h.2
    omega

end Go.Proofs.Qxb6616638aGreatFmt.Plain
