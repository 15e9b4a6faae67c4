/-
  THE WALK of namedJoinClosed: where it says yes, every two sets that meet meet in a set of the lattice.
-/
import Derived.Test.Qxb6616637aWell
namespace Go.Proofs.Qxb6616637a
open Go.RowKit
open Plain

theorem WfTo.wf {n : Nat} {A : Nat → Nat} (h : WfTo n A n) : Wf n A := ⟨fun i hi => (h i hi).1, fun i hi => (h i hi).2.1, fun i hi => (h i hi).2.2⟩

/-- What is known behind k outer rounds and, in the next, behind the inner ones below m. -/
def JoinTo (n : Nat) (A : Nat → Nat) (k m : Nat) : Prop :=
  ∀ i j, i < j → j < n → (i < k ∨ (i = k ∧ j < m)) → A i &&& A j ≠ 0 → ∀ l, Lowest (A i &&& A j) l → A l = A i &&& A j

theorem JoinTo.zero {n : Nat} {A : Nat → Nat} : JoinTo n A 0 0 := by
  intro i j _ _ h
  omega
theorem JoinTo.start {n k : Nat} {A : Nat → Nat} (h : JoinTo n A k 0) : JoinTo n A k (k + 1) := by
  intro i j h1 h2 h3
  exact h i j h1 h2 (by omega)
theorem JoinTo.next {n k : Nat} {A : Nat → Nat} (h : JoinTo n A k n) : JoinTo n A (k + 1) 0 := by
  intro i j h1 h2 h3
  exact h i j h1 h2 (by omega)
theorem JoinTo.all {n : Nat} {A : Nat → Nat} (h : JoinTo n A n 0) : Join n A := by
  intro i j h1 h2
  exact h i j h1 h2 (by omega)
theorem JoinTo.skip {n k m u : Nat} {A : Nat → Nat} (h : JoinTo n A k m) (hu : A k &&& A m = u) (h0 : u = 0) : JoinTo n A k (m + 1) := by
  intro i j h1 h2 h3 hne
  by_cases e : i = k ∧ j = m
  · obtain ⟨rfl, rfl⟩ := e
    exact absurd (hu.trans h0) hne
  · exact h i j h1 h2 (by omega) hne
theorem JoinTo.step {n k m u l : Nat} {A : Nat → Nat} (h : JoinTo n A k m) (hu : A k &&& A m = u) (hl : Lowest u l) (hv : A l = u) : JoinTo n A k (m + 1) := by
  intro i j h1 h2 h3 hne l' hl'
  by_cases e : i = k ∧ j = m
  · obtain ⟨rfl, rfl⟩ := e
    rw [hu] at hl' ⊢
    rw [hl'.uniq hl]
    exact hv
  · exact h i j h1 h2 (by omega) hne l' hl'

set_option maxHeartbeats 400000 in
theorem closed_any (A : Nat → Nat) (n cap b : Nat) (w : World) (hn : n ≤ 64) (hc : ∀ i, i < n → w.cell? ⟨b, i, none⟩ = some (.int .u64 (A i : Int))) (hA : ∀ i, i < n → A i < 18446744073709551616) (hw : Wf n A) :
    Calls Try.prog 6 #[.slice (some ⟨b, 0, none⟩) n cap] w fun e w' => (∃ r : Bool, e = .returned (.bool r) ∧ (r = true → Join n A)) ∧ ∃ q, w' = w.drewN q := by
  have HC : Hid (∀ i, i < n → w.cell? ⟨b, i, none⟩ = some (.int .u64 (A i : Int))) := hc
  have HA : Hid (∀ i, i < n → A i < 18446744073709551616) := hA
  have HW : Hid (Wf n A) := hw
  clear hc hA hw
  go_enter Try.func6, Try.ntmps6
  go_wp2
  go_loopw [4] (fun i wr => ∃ k : Nat, k ≤ n ∧ i = .int .i64 k ∧ JoinTo n A k 0 ∧ ∃ q, wr = w.drewN q) (fun i _ => n - (intOf i).toNat)
  case atStart => exact ⟨0, Nat.zero_le _, rfl, JoinTo.zero, 0, rfl⟩
  case round =>
    obtain ⟨k, hk, rfl, hto, q, rfl⟩ := hrel
    have HT : Hid (JoinTo n A k 0) := hto
    clear hto
    by_cases hlt : k < n
    · have hck := HC.out k hlt
      have hak := HA.out k hlt
      generalize hx : A k = x at hck hak
      have HX : Hid (A k = x) := hx
      clear hx
      have hki : (0 : Int) ≤ (k : Int) := by omega
      have hkj : (k : Int) < (n : Int) := by omega
      go_wp2
      go_loopw [5] (fun j wr => ∃ m : Nat, m ≤ n ∧ j = .int .i64 m ∧ JoinTo n A k m ∧ ∃ q, wr = w.drewN q) (fun j _ => n - (intOf j).toNat)
      case atStart => exact ⟨k + 1, by omega, by go_num, HT.out.start, q, rfl⟩
      case round =>
        obtain ⟨m, hm, rfl, hto, q2, rfl⟩ := hrel
        have HM : Hid (JoinTo n A k m) := hto
        clear hto
        by_cases hmn : m < n
        · have hcm := HC.out m hmn
          have ham := HA.out m hmn
          have hmi : (0 : Int) ≤ (m : Int) := by omega
          have hmj : (m : Int) < (n : Int) := by omega
          generalize hy : A m = y at hcm ham
          have hbits := u64_and_nat x y hak ham
          have hub : x &&& y < 18446744073709551616 := Nat.lt_of_le_of_lt Nat.and_le_left hak
          have HU : Hid (A k &&& A m = x &&& y) := by rw [HX.out, hy]; rfl
          generalize x &&& y = u at hbits hub HU
          clear hy
          by_cases h0 : u = 0
          · have HS : Hid (JoinTo n A k (m + 1)) := HM.out.skip HU.out h0
            subst h0
            go_wp2
            go_quiet (fail)
            go_wp2
            exact ⟨⟨m + 1, by omega, by go_num, HS.out, _, rfl⟩, by simp [intOf]; omega⟩
          · have hne : ((u : Int) == 0) = false := by simp [h0]
            go_wp2
            go_quiet (fail)
            go_wp2_with fail
            refine (low_any u h0 hub _).mono ?_
            rintro e w' ⟨⟨l, rfl, hl⟩, rfl⟩
            have HL : Hid (Lowest u l) := hl
            clear hl
            have hln : l < n := by
              have h3 := HL.out.1
              rw [← HU.out, Nat.testBit_and] at h3
              refine bit_lt HW.out hlt (k := l) ?_
              revert h3
              cases (A k).testBit l <;> simp
            have hcl := HC.out l hln
            have hli : (0 : Int) ≤ (l : Int) := by omega
            have hlj : (l : Int) < (n : Int) := by omega
            generalize hv : A l = v at hcl
            have HV : Hid (A l = v) := hv
            clear hv
            go_wp2
            · go_ret
              exact ⟨⟨false, rfl, fun h => by cases h⟩, _, rfl⟩
            · rename_i hvu
              have hvu' : v = u := by simp at hvu; omega
              have HS : Hid (JoinTo n A k (m + 1)) := HM.out.step HU.out HL.out (HV.out.trans hvu')
              exact ⟨⟨m + 1, by omega, by go_num, HS.out, _, rfl⟩, by simp [intOf]; omega⟩
        · have e : m = n := by omega
          have HS : Hid (JoinTo n A (k + 1) 0) := by subst e; exact HM.out.next
          clear e
          go_wp2
          exact ⟨⟨k + 1, by omega, by go_num, HS.out, _, rfl⟩, by simp [intOf]; omega⟩
    · go_wp2
      go_ret
      exact ⟨⟨true, rfl, fun _ => by
        have e : k = n := by omega
        subst e
        exact HT.out.all⟩, q, rfl⟩

end Go.Proofs.Qxb6616637a
