/-
  PLAIN: the loop of add over the groups of like leads.
-/
import Derived.Test.Qxb6616638aGreatFmtOrdP
namespace Go.Proofs.Qxb6616638aGreatFmt
namespace Plain
set_option linter.unusedVariables false

/-- What stands after n places: names strictly sorted before n, the sorted numbers from n on, no lead on both sides. -/
structure GI (us : Nat → List Nat) (sv : Nat → Nat) (N n : Nat) (fo : Nat → Nat) : Prop where
  le : n ≤ N
  tail : ∀ i, n ≤ i → i < N → fo i = sv i
  perm : ((List.range n).map fo).Perm ((List.range n).map (fun i => sv i % 65536))
  strict : StrictP us ((List.range n).map fo)
  edge : ∀ i j, i < n → n ≤ j → j < N → sv i / 65536 < sv j / 65536

theorem GI.start (us : Nat → List Nat) (sv : Nat → Nat) (N : Nat) : GI us sv N 0 sv :=
  ⟨Nat.zero_le _, fun _ _ _ => rfl, List.Perm.refl _, List.Pairwise.nil, fun i j h => by omega⟩

def paste (n m : Nat) (is : List Nat) (fo : Nat → Nat) : Nat → Nat := fun i => if n ≤ i ∧ i < m then is.getD (i - n) 0 else fo i

theorem range_paste {n m : Nat} (h : n ≤ m) {is : List Nat} (hl : is.length = m - n) (fo : Nat → Nat) : (List.range m).map (paste n m is fo) = (List.range n).map fo ++ is := by
  obtain ⟨d, rfl⟩ : ∃ d, m = n + d := ⟨m - n, by omega⟩
  rw [List.range_add, List.map_append]
  congr 1
  · apply List.map_congr_left
    intro i hi
    have := List.mem_range.1 hi
    unfold paste
    rw [if_neg (by omega)]
  · apply List.ext_getElem
    · simp; omega
    · intro i h1 h2
      simp only [List.length_map, List.length_range] at h1
      simp only [List.getElem_map, List.getElem_range]
      unfold paste
      rw [if_pos (by omega), List.getD_eq_getElem?_getD, show n + i - n = i by omega, List.getElem?_eq_getElem (by omega)]
      rfl

theorem GI.step {us : Nat → List Nat} {sv L : Nat → Nat} {N n m : Nat} {fo : Nat → Nat} {is : List Nat} (h : GI us sv N n fo) (hn : n < m) (hm : m ≤ N) (hsort : ∀ i j, i ≤ j → j < N → sv i ≤ sv j)
    (hlead : ∀ i, i < N → L (sv i % 65536) = sv i / 65536) (hlt : ∀ i j, i < N → j < N → L (sv i % 65536) < L (sv j % 65536) → cmpU (us (sv i % 65536)) (us (sv j % 65536)) < 0)
    (hin : ∀ i, n ≤ i → i < m → sv i / 65536 = sv n / 65536) (hend : m = N ∨ sv m / 65536 ≠ sv n / 65536)
    (hp : is.Perm ((List.range (m - n)).map (fun t => sv (n + t) % 65536))) (hs : StrictP us is) : GI us sv N m (paste n m is fo) := by
  have hl : is.length = m - n := by rw [hp.length_eq]; simp
  refine ⟨hm, fun i h1 h2 => ?_, ?_, ?_, fun i j h1 h2 h3 => ?_⟩
  · unfold paste
    rw [if_neg (by omega)]
    exact h.tail i (by omega) h2
  · rw [range_paste (by omega) hl]
    obtain ⟨d, rfl⟩ : ∃ d, m = n + d := ⟨m - n, by omega⟩
    rw [List.range_add, List.map_append]
    refine h.perm.append ?_
    rw [List.map_map]
    have : n + d - n = d := by omega
    rw [this] at hp
    exact hp
  · rw [range_paste (by omega) hl]
    unfold StrictP
    rw [List.pairwise_append]
    refine ⟨h.strict, hs, fun a ha b hb => ?_⟩
    have ha' := h.perm.mem_iff.1 ha
    have hb' := hp.mem_iff.1 hb
    obtain ⟨i, hi, rfl⟩ := List.mem_map.1 ha'
    obtain ⟨t, ht, rfl⟩ := List.mem_map.1 hb'
    have hi := List.mem_range.1 hi
    have ht := List.mem_range.1 ht
    refine hlt i (n + t) (by omega) (by omega) ?_
    rw [hlead i (by omega), hlead (n + t) (by omega)]
    exact h.edge i (n + t) hi (by omega) (by omega)
  · by_cases hi : i < n
    · exact h.edge i j hi (by omega) h3
    · have e1 := hin i (by omega) h1
      have e2 := hin n (Nat.le_refl _) hn
      rcases hend with he | he
      · omega
      · have s1 := hsort m j h2 h3
        have s2 := hsort n m (by omega) (by omega)
        have s3 : sv m / 65536 ≤ sv j / 65536 := Nat.div_le_div_right s1
        have s4 : sv n / 65536 ≤ sv m / 65536 := Nat.div_le_div_right s2
        omega

/-- The numbers sorted: what add sorts is lead and place. -/
theorem GI.last {us : Nat → List Nat} {sv L : Nat → Nat} {N : Nat} {fo : Nat → Nat} (h : GI us sv N N fo) (hN : N ≤ 65536) (hp : ((List.range N).map sv).Perm ((List.range N).map (fun i => L i * 65536 + i))) :
    ((List.range N).map fo).Perm (List.range N) := by
  refine h.perm.trans ?_
  have e := hp.map (fun v => v % 65536)
  rw [List.map_map, List.map_map] at e
  refine e.trans ?_
  rw [show (List.range N).map ((fun v => v % 65536) ∘ fun i => L i * 65536 + i) = (List.range N).map id from List.map_congr_left (fun i hi => ?_)]
  · simp
  · have := List.mem_range.1 hi
    simp only [Function.comp, id]
    omega

theorem sv_of {sv L : Nat → Nat} {N : Nat} (hN : N ≤ 65536) (hp : ((List.range N).map sv).Perm ((List.range N).map (fun i => L i * 65536 + i))) : ∀ i, i < N → sv i % 65536 < N ∧ L (sv i % 65536) = sv i / 65536 := by
  intro i hi
  have : sv i ∈ (List.range N).map sv := List.mem_map.2 ⟨i, List.mem_range.2 hi, rfl⟩
  obtain ⟨t, ht, e⟩ := List.mem_map.1 (hp.mem_iff.1 this)
  have ht := List.mem_range.1 ht
  have e1 : sv i % 65536 = t := by omega
  have e2 : sv i / 65536 = L t := by omega
  rw [e1, e2]
  exact ⟨ht, rfl⟩

/-- The places of a group are distinct. -/
theorem sv_nodup {sv L : Nat → Nat} {N : Nat} (hN : N ≤ 65536) (hp : ((List.range N).map sv).Perm ((List.range N).map (fun i => L i * 65536 + i))) : ∀ i j, i < N → j < N → i ≠ j → sv i % 65536 ≠ sv j % 65536 := by
  intro i j hi hj hne he
  have hnd : ((List.range N).map (fun i => sv i % 65536)).Nodup := by
    have e := hp.map (fun v => v % 65536)
    rw [List.map_map, List.map_map] at e
    refine (e.nodup_iff).2 ?_
    rw [show (List.range N).map ((fun v => v % 65536) ∘ fun i => L i * 65536 + i) = (List.range N).map id from List.map_congr_left (fun i hi => by have := List.mem_range.1 hi; simp only [Function.comp, id]; omega)]
    simpa using List.nodup_range
  rw [List.nodup_iff_pairwise_ne, List.pairwise_iff_getElem] at hnd
  rcases Nat.lt_or_gt_of_ne hne with h | h
  · exact hnd i j (by simpa using hi) (by simpa using hj) h (by simpa using he)
  · exact hnd j i (by simpa using hj) (by simpa using hi) h (by simpa using he.symm)

/-- Two alike among the places of a sorted group. -/
theorem two_alike {us : Nat → List Nat} {sv L : Nat → Nat} {N n m : Nat} {is : List Nat} (hN : N ≤ 65536) (hp : ((List.range N).map sv).Perm ((List.range N).map (fun i => L i * 65536 + i))) (hm : m ≤ N) (hn : n ≤ m)
    (hi : is.Perm ((List.range (m - n)).map (fun t => sv (n + t) % 65536))) {i : Nat} (h1 : i + 1 < is.length) (h2 : cmpU (us (is.getD i 0)) (us (is.getD (i + 1) 0)) = 0) : ∃ x y, x < N ∧ y < N ∧ x ≠ y ∧ cmpU (us x) (us y) = 0 := by
  have hnd : is.Nodup := by
    rw [hi.nodup_iff]
    rw [List.nodup_iff_pairwise_ne, List.pairwise_map]
    have := List.nodup_range (n := m - n)
    rw [List.nodup_iff_pairwise_ne] at this
    refine this.imp_of_mem ?_
    intro a b ha hb hne
    have := List.mem_range.1 ha
    have := List.mem_range.1 hb
    exact sv_nodup hN hp _ _ (by omega) (by omega) (by omega)
  have hmem : ∀ k, k < is.length → is.getD k 0 < N := by
    intro k hk
    have : is.getD k 0 ∈ is := by rw [List.getD_eq_getElem?_getD, List.getElem?_eq_getElem hk]; simp
    obtain ⟨t, ht, e⟩ := List.mem_map.1 (hi.mem_iff.1 this)
    have ht := List.mem_range.1 ht
    have := (sv_of hN hp (n + t) (by omega)).1
    omega
  refine ⟨_, _, hmem i (by omega), hmem (i + 1) h1, ?_, h2⟩
  rw [List.getD_eq_getElem?_getD, List.getD_eq_getElem?_getD, List.getElem?_eq_getElem h1, List.getElem?_eq_getElem (show i < is.length by omega)]
  simp only [Option.getD_some]
  intro e
  rw [List.nodup_iff_pairwise_ne, List.pairwise_iff_getElem] at hnd
  exact hnd i (i + 1) (by omega) h1 (by omega) e

end Plain
end Go.Proofs.Qxb6616638aGreatFmt
