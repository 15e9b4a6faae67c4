/-
  slices.Grow over a row that is owned.
-/
import Derived.Test.Qxb6616638aGreatFmtShelf2
import Derived.Test.Qxb6616638aGreatFmtRow
namespace Go.Proofs.Qxb6616638aGreatFmt
open Go.RowKit Go.Shelf
open Plain
set_option linter.unusedVariables false
set_option maxRecDepth 100000

variable {w : World}

theorem size_zeroCells (z : Array Value) (n : Nat) : (Builtin.zeroCells z n).size = n * z.size := by simp [Builtin.zeroCells]

def GrowGives (w : World) (base : Nat) (e : TypeId) (sz : Nat) (v : Value) (n : Nat) (xs : List Value) (r : Ending) (w' : World) : Prop :=
  ∃ g cap', r = .returned (.slice (some ⟨g, 0, none⟩) n cap') ∧ n + 32 ≤ cap' ∧ w'.ownsRow base e sz (.slice (some ⟨g, 0, none⟩) n cap') n xs ∧ w.grownBy w' none ∧ (v.ownBlock = some g ∨ w.heap.size ≤ g)

theorem grow_own {ρ : Ren} (L : Lays8.n4 Tryz.prog ρ) (i0 : TypeInfo) (z : Value) (sz : Nat) (hi : Tryz.prog.info? (ρ.t 25) = some i0) (hz : i0.zero = some z) (hs : i0.size = sz) (hs0 : 0 < sz) (hby : i0.bytes ≤ 64) (hzc : z.cells.size = sz)
    (base : Nat) (v : Value) (n : Nat) (xs : List Value) (hn : n ≤ 20000) (hown : w.ownsRow base (ρ.t 25) sz v n xs) (hb : base ≤ w.heap.size) :
    Calls Tryz.prog (ρ.f 4) #[v, .int .i64 32] w (GrowGives w base (ρ.t 25) sz v n xs) := by
  have hml : n + 32 ≤ maxLen := by unfold maxLen; omega
  have hbig : (n + 32) * i0.bytes ≤ 140737488355328 := by
    have : (n + 32) * i0.bytes ≤ 20032 * 64 := Nat.mul_le_mul (by omega) hby
    omega
  have new : ∀ (cs : List Value) (c : Nat), cs.length = c * sz → c < n + 32 → n ≤ c → cs.take (n * sz) = xs →
      (w.drew.alloc (.cells (cs.toArray ++ Builtin.zeroCells z.cells (n + 32 - c) ++ Builtin.zeroCells z.cells (grownCap w (n + 32) c (ρ.t 25) - (n + 32))) (ρ.t 25))).ownsRow base (ρ.t 25) sz (.slice (some ⟨w.heap.size, 0, none⟩) n (grownCap w (n + 32) c (ρ.t 25))) n xs := by
    intro cs c h1 h2 h3 h4
    have hge := grownCap_ge w (n + 32) c (ρ.t 25)
    refine ⟨hown.1, .inr ⟨w.heap.size, _, _, rfl, hb, heap_alloc_new w.drew _, by omega, grownCap_le_maxLen w (n + 32) c (ρ.t 25) hml, ?_, ?_⟩⟩
    · simp only [Array.size_append, size_zeroCells, hzc, List.size_toArray, h1, ← Nat.add_mul]
      congr 1
      omega
    · rw [← h4]
      simp only [Array.toList_append]
      rw [List.append_assoc, List.take_append_of_le_length (by simp [h1]; exact Nat.mul_le_mul_right _ h3)]
  have gb : ∀ o, w.grownBy (w.drew.alloc o) none := fun o => ⟨rfl, rfl, rfl, by simp, fun k hk _ => Below.heap_alloc w.drew o k hk⟩
  rcases hown.2 with ⟨rfl, rfl⟩ | ⟨g, cap, cur, rfl, hbg, hg, hnc, hcm, hcs, hct⟩
  · have h := Any8.slices_Grow_grow L i0 z hi hz (by omega) none 0 0 32 [] w (Nat.le_refl _) (by omega) hbig (by omega) (by simp) (fun _ => rfl) (fun a ha => by cases ha)
    refine h.mono ?_
    rintro r w' ⟨rfl, rfl⟩
    have hx : xs = [] := List.length_eq_zero_iff.1 (by simpa using hown.1)
    exact ⟨_, _, rfl, grownCap_ge _ _ _ _, new [] 0 (by simp) (by omega) (Nat.le_refl _) (by simp [hx]), gb _, .inr (Nat.le_refl _)⟩
  · by_cases hroom : n + 32 ≤ cap
    · have h := Any8.slices_Grow_room L (some ⟨g, 0, none⟩) n cap 32 w hnc (by simpa [maxLen] using hcm) (by omega) hroom
      refine h.mono ?_
      rintro r w' ⟨rfl, rfl⟩
      exact ⟨g, cap, rfl, hroom, hown, World.grownBy.refl _ _, .inl rfl⟩
    · have h := Any8.slices_Grow_grow L i0 z hi hz (by omega) (some ⟨g, 0, none⟩) n cap 32 cur.toList w hnc (by omega) hbig (by omega) (by simp [hcs, hs]) (fun h => by cases h) (fun a ha j u hu => by
        injection ha with ha
        subst ha
        have hadd : (⟨g, 0, none⟩ : Addr).add j = ⟨g, j, none⟩ := by unfold Addr.add; split <;> simp_all
        rw [hadd]
        simp only [World.cell?, hg]
        simpa using hu)
      refine h.mono ?_
      rintro r w' ⟨rfl, rfl⟩
      exact ⟨_, _, rfl, grownCap_ge _ _ _ _, new cur.toList cap (by simp [hcs]) (by omega) hnc hct, gb _, .inr (Nat.le_refl _)⟩

end Go.Proofs.Qxb6616638aGreatFmt
