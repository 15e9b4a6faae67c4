/-
  A store at the place just past a row's length, within its room.
-/
import Derived.Test.Qxb6616638aGreatFmtGrow2
namespace Go.Proofs.Qxb6616638aGreatFmt
open Go.RowKit
set_option linter.unusedVariables false
set_option maxRecDepth 100000

variable {w : World} {base : Nat} {e : TypeId} {g n cap : Nat} {xs : List Value}

/-- The row's heap object. -/
theorem row_obj {sz : Nat} (h : w.ownsRow base e sz (.slice (some ⟨g, 0, none⟩) n cap) n xs) : ∃ cur : Array Value, base ≤ g ∧ w.heap[g]? = some (.cells cur e (0, 0)) ∧ n ≤ cap ∧ cap ≤ maxLen ∧ cur.size = cap * sz ∧ cur.toList.take (n * sz) = xs := by
  rcases h.2 with ⟨h1, _⟩ | ⟨g', cap', cur, h1, h2, h3, h4, h5, h6, h7⟩
  · cases h1
  · injection h1 with h1 _ h1'
    injection h1 with h1
    injection h1 with h1 _ _
    subst h1
    subst h1'
    exact ⟨cur, h2, h3, h4, h5, h6, h7⟩

/-- A cell within the room is there, and free. -/
theorem row_room {sz : Nat} (h : w.ownsRow base e sz (.slice (some ⟨g, 0, none⟩) n cap) n xs) (j : Nat) (hj : j < cap * sz) : (∃ u, w.cell? ⟨g, j, none⟩ = some u) ∧ w.frozen? ⟨g, j, none⟩ = false := by
  obtain ⟨cur, _, hg, _, _, hs, _⟩ := row_obj h
  refine ⟨⟨cur[j]'(by omega), ?_⟩, ?_⟩
  · simp only [World.cell?, hg]
    simp [show j < cur.size by omega]
  · simp [World.frozen?, hg]

theorem push1 (h : w.ownsRow base e 1 (.slice (some ⟨g, 0, none⟩) n cap) n xs) (hn : n < cap) (x : Value) : (w.setCell ⟨g, n, none⟩ x).ownsRow base e 1 (.slice (some ⟨g, 0, none⟩) (n + 1) cap) (n + 1) (xs ++ [x]) := by
  obtain ⟨cur, h2, h3, h4, h5, h6, h7⟩ := row_obj h
  have hl : xs.length = n := by simpa using h.1
  refine ⟨by simp [hl], .inr ⟨g, cap, _, rfl, h2, heap_setCell_self w g n cur e (0, 0) x h3, by omega, h5, by simpa using h6, ?_⟩⟩
  simp only [Nat.mul_one] at h6 h7 ⊢
  have e1 : (cur.setIfInBounds n x).toList = cur.toList.set n x := by simp
  rw [e1, List.take_add_one, List.take_set_of_le (Nat.le_refl _), h7, List.getElem?_set_self (by simpa using (show n < cur.size by omega))]
  rfl

theorem take_set_one {l ys : List Value} {k : Nat} (h : l.take k = ys) (hk : k < l.length) (x : Value) : (l.set k x).take (k + 1) = ys ++ [x] := by
  rw [List.take_add_one, List.take_set_of_le (Nat.le_refl _), h, List.getElem?_set_self hk]
  rfl

theorem push4 (h : w.ownsRow base e 4 (.slice (some ⟨g, 0, none⟩) n cap) n xs) (hn : n < cap) (a b c d : Value) :
    ((((w.setCell ⟨g, n * 4, none⟩ a).setCell ⟨g, n * 4 + 1, none⟩ b).setCell ⟨g, n * 4 + 2, none⟩ c).setCell ⟨g, n * 4 + 3, none⟩ d).ownsRow base e 4 (.slice (some ⟨g, 0, none⟩) (n + 1) cap) (n + 1) (xs ++ [a, b, c, d]) := by
  obtain ⟨cur, h2, h3, h4, h5, h6, h7⟩ := row_obj h
  have hl : xs.length = n * 4 := h.1
  have s1 := heap_setCell_self w g (n * 4) cur e (0, 0) a h3
  have s2 := heap_setCell_self _ g (n * 4 + 1) _ e (0, 0) b s1
  have s3 := heap_setCell_self _ g (n * 4 + 2) _ e (0, 0) c s2
  have s4 := heap_setCell_self _ g (n * 4 + 3) _ e (0, 0) d s3
  refine ⟨by simp [hl]; omega, .inr ⟨g, cap, _, rfl, h2, s4, by omega, h5, by simpa using h6, ?_⟩⟩
  have hlen : cur.toList.length = cap * 4 := by simpa using h6
  have t1 := take_set_one h7 (by omega) a
  have t2 := take_set_one t1 (by simp; omega) b
  have t3 := take_set_one t2 (by simp; omega) c
  have t4 := take_set_one t3 (by simp; omega) d
  simp only [Array.toList_setIfInBounds]
  rw [show (n + 1) * 4 = n * 4 + 1 + 1 + 1 + 1 by omega]
  simpa using t4

end Go.Proofs.Qxb6616638aGreatFmt
