/-
  Small laws for the walk of add over the groups.
-/
import Derived.Test.Qxb6616638aGreatFmtAdd4
namespace Go.Proofs.Qxb6616638aGreatFmt
open Go.RowKit
open Plain
set_option linter.unusedVariables false
set_option maxRecDepth 100000

theorem lead_cmp {bs : Nat → Nat} {n : Nat} {es : List Ent} {lsE : Nat → List Nat} {k : Nat} {js : List Nat} (ho : Objt bs n es lsE k js) (hx : ∀ i, i < n → bs i < 256) (hz : orL bs es js &&& 141289400074368 = 0) :
    ∀ a b, a < js.length → b < js.length → ldE bs es (js.getD a 0) < ldE bs es (js.getD b 0) → cmpU (uOf bs es lsE (js.getD a 0)) (uOf bs es lsE (js.getD b 0)) < 0 := by
  intro a b ha hb h
  have hz' := (orL_and js 0 hz).2
  have mem : ∀ i, i < js.length → js.getD i 0 ∈ js := by
    intro i hi
    rw [List.getD_eq_getElem?_getD, List.getElem?_eq_getElem hi]
    simp
  have hle : ∀ i, i < js.length → fr es (js.getD i 0) ≤ to es (js.getD i 0) ∧ to es (js.getD i 0) < n := by
    intro i hi
    obtain ⟨h1, h2, _⟩ := ho.str i hi
    unfold fr to
    omega
  have hby : ∀ i, i < js.length → ∀ t, t < to es (js.getD i 0) - fr es (js.getD i 0) → bs (fr es (js.getD i 0) + t) < 256 := by
    intro i hi t ht
    have := hle i hi
    exact hx _ (by omega)
  have hch : ∀ i, i < js.length → Chars bs (fr es (js.getD i 0)) (lsE (js.getD i 0)) (fr es (js.getD i 0) + (to es (js.getD i 0) - fr es (js.getD i 0))) := by
    intro i hi
    have := hle i hi
    rw [show fr es (js.getD i 0) + (to es (js.getD i 0) - fr es (js.getD i 0)) = to es (js.getD i 0) by omega]
    exact ho.chars i hi
  rw [← nm_cmp ho ha hb]
  exact lead_lt (hch a ha) (hch b hb) (hby a ha) (hby b hb) (ascii_ld (hby a ha) (hz' _ (mem a ha))) (ascii_ld (hby b hb) (hz' _ (mem b hb))) h

theorem sv_lt {bs : Nat → Nat} {n : Nat} {es : List Ent} {lsE : Nat → List Nat} {k : Nat} {js : List Nat} {sv : Nat → Nat} (ho : Objt bs n es lsE k js) (hx : ∀ i, i < n → bs i < 256) (hN : js.length ≤ 65536)
    (hp : ((List.range js.length).map sv).Perm ((List.range js.length).map (fun i => ldE bs es (js.getD i 0) * 65536 + i))) : ∀ i, i < js.length → sv i < 18446744073709551616 := by
  intro i hi
  have : sv i ∈ (List.range js.length).map sv := List.mem_map.2 ⟨i, List.mem_range.2 hi, rfl⟩
  obtain ⟨t, ht, e⟩ := List.mem_map.1 (hp.mem_iff.1 this)
  have ht := List.mem_range.1 ht
  have := ldE_lt (ho.str t ht) hx
  omega

theorem and16_run (v : Nat) (hv : v < 18446744073709551616) : bits .and .u64 (v : Int) 65535 = ((v % 65536 : Nat) : Int) := by
  have h := bits_and_u64_nat v 65535 hv (by omega)
  rw [show v &&& 65535 = v % 65536 from Nat.and_two_pow_sub_one_eq_mod v 16] at h
  exact h

theorem strict_one (us : Nat → List Nat) (a : Nat) : StrictP us [a] := List.pairwise_singleton _ _

end Go.Proofs.Qxb6616638aGreatFmt
