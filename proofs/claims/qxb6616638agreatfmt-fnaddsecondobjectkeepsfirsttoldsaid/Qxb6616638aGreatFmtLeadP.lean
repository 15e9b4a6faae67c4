/-
  PLAIN: the order of the leads is the order of the names, where the leads are ASCII.
-/
import Derived.Test.Qxb6616638aGreatFmtAddM1
import Derived.Test.Qxb6616638aGreatFmtCmpB
import Derived.Test.Qxb6616638aGreatFmtName2
namespace Go.Proofs.Qxb6616638aGreatFmt
open Go.RowKit
set_option linter.unusedVariables false
set_option maxRecDepth 100000
namespace Plain

def num (b : Nat → Nat) : Nat → Nat
  | 0 => 0
  | m + 1 => num b m * 256 + b m

theorem num_inj {a b : Nat → Nat} : ∀ m, (∀ i, i < m → a i < 256) → (∀ i, i < m → b i < 256) → num a m = num b m → ∀ i, i < m → a i = b i
  | 0, _, _, _, i, hi => by omega
  | m + 1, ha, hb, h, i, hi => by
    simp only [num] at h
    have h1 := ha m (by omega)
    have h2 := hb m (by omega)
    have e1 : num a m = num b m := by omega
    by_cases e : i = m
    · subst e; omega
    · exact num_inj m (fun j hj => ha j (by omega)) (fun j hj => hb j (by omega)) e1 i (by omega)

theorem num_lt {a b : Nat → Nat} : ∀ m, (∀ i, i < m → a i < 256) → (∀ i, i < m → b i < 256) → num a m < num b m → ∃ k, k < m ∧ (∀ i, i < k → a i = b i) ∧ a k < b k
  | 0, _, _, h => by simp [num] at h
  | m + 1, ha, hb, h => by
    simp only [num] at h
    have h1 := ha m (by omega)
    have h2 := hb m (by omega)
    by_cases e : num a m = num b m
    · exact ⟨m, by omega, fun i hi => num_inj m (fun j hj => ha j (by omega)) (fun j hj => hb j (by omega)) e i hi, by omega⟩
    · obtain ⟨k, q1, q2, q3⟩ := num_lt m (fun j hj => ha j (by omega)) (fun j hj => hb j (by omega)) (by omega)
      exact ⟨k, by omega, q2, q3⟩

theorem ld_num (bs : Nat → Nat) (p k : Nat) : ld bs p k = num (nb bs p k) 6 := by
  simp only [num]
  unfold ld
  omega

theorem bl_getD (bs : Nat → Nat) (p k i : Nat) : (bl bs p k).getD i 0 = nb bs p k i := by
  unfold nb
  split
  · rename_i h
    rw [List.getD_eq_getElem?_getD, List.getElem?_eq_getElem (by rw [bl_length]; exact h), Option.getD_some, bl_get]
  · rename_i h
    rw [List.getD_eq_getElem?_getD, List.getElem?_eq_none (by rw [bl_length]; omega)]
    rfl

/-- Every byte of a name is a printing one. -/
theorem chars_ge {bs : Nat → Nat} {q : Nat} : ∀ {p : Nat} {ls : List Nat}, Chars bs p ls q → ∀ x, p ≤ x → x < q → 32 ≤ bs x
  | p, [], h, x, h1, h2 => by simp only [Chars] at h; omega
  | p, l :: ls, h, x, h1, h2 => by
    by_cases hx : p + l ≤ x
    · exact chars_ge h.2 x hx h2
    · obtain ⟨⟨hs, hc, _⟩, _⟩ := h
      rcases hs with ⟨rfl, _⟩ | ⟨rfl, _, _, h3, _⟩ | ⟨rfl, _, _, _, _, h3, _, h4, _⟩ | ⟨rfl, _, _, _, _, h3, _, h4, _, h5, _⟩
      · have : x = p := by omega
        subst this; exact hc
      · rcases (show x = p ∨ x = p + 1 by omega) with rfl | rfl <;> omega
      · rcases (show x = p ∨ x = p + 1 ∨ x = p + 2 by omega) with rfl | rfl | rfl <;> omega
      · rcases (show x = p ∨ x = p + 1 ∨ x = p + 2 ∨ x = p + 3 by omega) with rfl | rfl | rfl | rfl <;> omega

/-- The lead of one name below that of another: so are the names. -/
theorem lead_lt {bs : Nat → Nat} {p k q m : Nat} {ls ms : List Nat} (hp : Chars bs p ls (p + k)) (hq : Chars bs q ms (q + m)) (hbp : ∀ i, i < k → bs (p + i) < 256) (hbq : ∀ i, i < m → bs (q + i) < 256)
    (ap : ∀ i, i < 6 → nb bs p k i < 128) (aq : ∀ i, i < 6 → nb bs q m i < 128) (h : ld bs p k < ld bs q m) : cmpB (bl bs p k) (bl bs q m) < 0 := by
  rw [ld_num, ld_num] at h
  obtain ⟨j, hj, he, hlt⟩ := num_lt 6 (fun i hi => by have := ap i hi; omega) (fun i hi => by have := aq i hi; omega) h
  have hjm : j < m := by
    rcases Nat.lt_or_ge j m with hh | hh
    · exact hh
    · have : nb bs q m j = 0 := by unfold nb; rw [if_neg (by omega)]
      omega
  have hpre : ∀ i, i < j → i < k := by
    intro i hi
    rcases Nat.lt_or_ge i k with hh | hh
    · exact hh
    · have e1 : nb bs p k i = 0 := by unfold nb; rw [if_neg (by omega)]
      have e2 : nb bs q m i = bs (q + i) := by unfold nb; rw [if_pos (by omega)]
      have e3 := chars_ge hq (q + i) (by omega) (by omega)
      have e4 := he i hi
      omega
  have hjk : j ≤ k := by
    rcases Nat.lt_or_ge k j with hh | hh
    · have := hpre k hh; omega
    · exact hh
  have hg : ∀ i, i < j → (bl bs p k).getD i 0 = (bl bs q m).getD i 0 := fun i hi => by rw [bl_getD, bl_getD]; exact he i hi
  by_cases hjk' : j < k
  · have h1 := ap j hj
    have h2 := aq j hj
    rw [cmpB_at (x := bl bs p k) (y := bl bs q m) (k := j) (by rw [bl_length]; exact hjk') (by rw [bl_length]; exact hjm) hg (by rw [bl_getD, bl_getD]; omega)]
    rw [bl_getD, bl_getD]
    have : ¬ (238 ≤ nb bs p k j) := by omega
    simp [this, hlt]
  · have ejk : j = k := by omega
    subst ejk
    rw [cmpB_end (x := bl bs p j) (y := bl bs q m) (k := j) (by rw [bl_length]; omega) (by rw [bl_length]; omega) hg (.inl (by rw [bl_length]))]
    rw [bl_length, bl_length]
    unfold cmpI
    simp; omega

/-- Names alike have one lead. -/
theorem lead_eq {bs : Nat → Nat} {p k q m : Nat} (h : bl bs p k = bl bs q m) : ld bs p k = ld bs q m := by
  have e : nb bs p k = nb bs q m := by
    funext i
    rw [← bl_getD, ← bl_getD, h]
  rw [ld_num, ld_num, e]

theorem and_zero_bit {x m i : Nat} (h : x &&& m = 0) (hm : m.testBit i = true) : x / 2 ^ i % 2 = 0 := by
  have h1 : (x &&& m).testBit i = false := by rw [h]; simp
  rw [Nat.testBit_and, hm, Bool.and_true, Nat.testBit_eq_decide_div_mod_eq] at h1
  have h2 : ¬ (x / 2 ^ i % 2 = 1) := of_decide_eq_false h1
  omega

theorem ascii_of (y0 y1 y2 y3 y4 y5 : Nat) (h0 : y0 < 256) (h1 : y1 < 256) (h2 : y2 < 256) (h3 : y3 < 256) (h4 : y4 < 256) (h5 : y5 < 256)
    (h : (y5 + y4 * 256 + y3 * 65536 + y2 * 16777216 + y1 * 4294967296 + y0 * 1099511627776) &&& 141289400074368 = 0) : y0 < 128 ∧ y1 < 128 ∧ y2 < 128 ∧ y3 < 128 ∧ y4 < 128 ∧ y5 < 128 := by
  have a0 := and_zero_bit (i := 47) h (by decide)
  have a1 := and_zero_bit (i := 39) h (by decide)
  have a2 := and_zero_bit (i := 31) h (by decide)
  have a3 := and_zero_bit (i := 23) h (by decide)
  have a4 := and_zero_bit (i := 15) h (by decide)
  have a5 := and_zero_bit (i := 7) h (by decide)
  simp only [Nat.reducePow] at a0 a1 a2 a3 a4 a5
  refine ⟨?_, ?_, ?_, ?_, ?_, ?_⟩ <;> omega

theorem ascii_ld {bs : Nat → Nat} {p k : Nat} (hb : ∀ i, i < k → bs (p + i) < 256) (h : ld bs p k &&& 141289400074368 = 0) : ∀ i, i < 6 → nb bs p k i < 128 := by
  obtain ⟨a0, a1, a2, a3, a4, a5⟩ := ascii_of _ _ _ _ _ _ (nb_lt hb 0) (nb_lt hb 1) (nb_lt hb 2) (nb_lt hb 3) (nb_lt hb 4) (nb_lt hb 5) h
  intro i hi
  rcases (show i = 0 ∨ i = 1 ∨ i = 2 ∨ i = 3 ∨ i = 4 ∨ i = 5 by omega) with rfl | rfl | rfl | rfl | rfl | rfl <;> assumption

theorem or_and_zero {a b m : Nat} (h : (a ||| b) &&& m = 0) : a &&& m = 0 ∧ b &&& m = 0 := by
  rw [Nat.and_or_distrib_right] at h
  exact Nat.or_eq_zero_iff.1 h

theorem orL_and {bs : Nat → Nat} {es : List Ent} {m : Nat} : ∀ (js : List Nat) (a : Nat), (js.foldl (fun a j => a ||| ldE bs es j) a) &&& m = 0 → a &&& m = 0 ∧ ∀ j ∈ js, ldE bs es j &&& m = 0
  | [], a, h => ⟨h, fun j hj => by cases hj⟩
  | i :: js, a, h => by
    obtain ⟨h1, h2⟩ := orL_and js _ h
    obtain ⟨h3, h4⟩ := or_and_zero h1
    exact ⟨h3, fun j hj => by
      rcases List.mem_cons.1 hj with rfl | hj
      · exact h4
      · exact h2 j hj⟩

end Plain
end Go.Proofs.Qxb6616638aGreatFmt
