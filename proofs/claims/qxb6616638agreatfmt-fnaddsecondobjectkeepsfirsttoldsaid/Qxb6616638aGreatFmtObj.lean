/-
  PLAIN: an object of the tape, as the law's own checks read it, from what zzBuild gives.
-/
import Derived.Test.Qxb6616638aGreatFmtAddM2
import Derived.Test.Qxb6616638aGreatFmtOrdAt
namespace Go.Proofs.Qxb6616638aGreatFmt
open Plain
set_option linter.unusedVariables false
namespace Plain

theorem ls_ex (bs : Nat → Nat) (es : List Ent) : ∃ lsE : Nat → List Nat, ∀ j, (∃ ls, Chars bs (fr es j) ls (to es j)) → Chars bs (fr es j) (lsE j) (to es j) := by
  classical
  refine ⟨fun j => if h : ∃ ls, Chars bs (fr es j) ls (to es j) then h.choose else [], fun j h => ?_⟩
  simp only [dif_pos h]
  exact h.choose_spec

theorem chain_mem {bs : Nat → Nat} {n : Nat} {es : List Ent} {k q : Nat} : ∀ {p : Nat} {js : List Nat}, Chain bs n es k p js q → ∀ j ∈ js, j + 1 < es.length ∧ Str bs n (at_ es j).st (at_ es j).en
  | _, [], _, j, hj => by cases hj
  | p, i :: js, h, j, hj => by
    obtain ⟨rfl, h1, _, _, _, h2, _, _, _, _, _, h3⟩ := h
    rcases List.mem_cons.1 hj with rfl | hj
    · exact ⟨h1, h2⟩
    · exact chain_mem h3 j hj

theorem getD_mem {js : List Nat} {i : Nat} (hi : i < js.length) : js.getD i 0 ∈ js := by
  rw [List.getD_eq_getElem?_getD, List.getElem?_eq_getElem hi]
  simp

theorem obj_of {bs : Nat → Nat} {n : Nat} {es : List Ent} {k : Nat} {lsE : Nat → List Nat} (hb : Built bs n es) (hk : k < es.length) (hcl : (at_ es k).cl = false) (hst : bs (at_ es k).st = 123)
    (hls : ∀ j, (∃ ls, Chars bs (fr es j) ls (to es j)) → Chars bs (fr es j) (lsE j) (to es j)) : ∃ js, (at_ es k).en < es.length ∧ Chain bs n es k (k + 1) js (at_ es k).en ∧ Objt bs n es lsE k js := by
  obtain ⟨hen, js, hch⟩ := (hb.ok k hk).2 hcl hst
  refine ⟨js, hen, hch, hk, hen, ?_, fun i hi => (chain_mem hch _ (getD_mem hi)).1, fun i hi => (chain_mem hch _ (getD_mem hi)).2, fun i hi => ?_, ?_⟩
  · rw [mems_chain (Nat.le_refl _) hch]
    simp [mems]
  · obtain ⟨h1, h2, ls, h3⟩ := (chain_mem hch _ (getD_mem hi)).2
    exact hls _ ⟨ls, h3⟩
  · have := chain_len hch
    omega

end Plain
end Go.Proofs.Qxb6616638aGreatFmt
