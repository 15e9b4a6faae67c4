/-
  THE WALK of namedWellFormed: where it says yes, the sets are what the law asks.
-/
import Derived.Test.Qxb6616637aWalks
namespace Go.Proofs.Qxb6616637a
open Go.RowKit
open Plain

/-- What is known behind k rounds. -/
def WfTo (n : Nat) (A : Nat → Nat) (k : Nat) : Prop :=
  ∀ i, i < k → (A i).testBit i = true ∧ (∀ j, j < i → (A i).testBit j = false) ∧ (∀ j, n ≤ j → (A i).testBit j = false)

theorem cast_div (x k : Nat) : ((x : Int) / 2 ^ k) = ((x / 2 ^ k : Nat) : Int) := by simp

theorem wf_step {n k x : Nat} {A : Nat → Nat} (hx : A k = x) (hb : x < 18446744073709551616) (hk : k < n) (hn : n ≤ 64) (hto : WfTo n A k)
    (c1 : (bits BinOp.and IntKind.u64 ((x : Int) / 2 ^ k) 1 != 1) = false)
    (c2 : (bits BinOp.and IntKind.u64 (x : Int) (IntKind.u64.wrap (IntKind.u64.wrap (2 ^ k) - 1)) != 0) = false)
    (c3 : 64 ≤ n ∨ ((x : Int) / 2 ^ n != 0) = false) : WfTo n A (k + 1) := by
  intro i hi
  rcases Nat.lt_or_ge i k with h | h
  · exact hto i h
  have e : i = k := by omega
  subst e
  rw [hx]
  have hp0 : 0 < 2 ^ i := Nat.two_pow_pos i
  have hp : 2 ^ i < 18446744073709551616 := Nat.pow_lt_pow_right (by omega) (show i < 64 by omega) (a := 2) (n := 64)
  refine ⟨?_, ?_, ?_⟩
  · rw [cast_div, and_one _ (Nat.lt_of_le_of_lt (Nat.div_le_self _ _) hb)] at c1
    rw [bit_mod]
    generalize x / 2 ^ i = y at c1 ⊢
    simp at c1
    simp
    omega
  · have e1 : IntKind.u64.wrap (IntKind.u64.wrap (2 ^ i) - 1) = ((2 ^ i - 1 : Nat) : Int) := by
      rw [IntKind.wrap_u64, IntKind.wrap_u64]
      have : ((2 : Int) ^ i) = ((2 ^ i : Nat) : Int) := by simp
      rw [this]
      generalize 2 ^ i = p at hp hp0 ⊢
      omega
    rw [e1, u64_and_nat x (2 ^ i - 1) hb (by omega), Nat.and_two_pow_sub_one_eq_mod] at c2
    intro j hj
    have hz : x % 2 ^ i = 0 := by
      generalize x % 2 ^ i = y at c2 ⊢
      simp at c2
      omega
    have ht := Nat.testBit_mod_two_pow x i j
    rw [hz] at ht
    simpa [hj] using ht
  · intro j hj
    have hlt : x < 2 ^ n := by
      rcases c3 with c3 | c3
      · have e64 : n = 64 := by omega
        rw [e64]
        exact hb
      · rw [cast_div] at c3
        have hz : x / 2 ^ n = 0 := by
          generalize x / 2 ^ n = y at c3 ⊢
          simp at c3
          omega
        rcases Nat.lt_or_ge x (2 ^ n) with h5 | h5
        · exact h5
        · have := Nat.div_pos h5 (Nat.two_pow_pos n)
          omega
    exact Nat.testBit_lt_two_pow (Nat.lt_of_lt_of_le hlt (Nat.pow_le_pow_right (by omega) hj))

set_option maxHeartbeats 400000 in
theorem well_any (A : Nat → Nat) (n cap b : Nat) (w : World) (hn : n ≤ 64) (hc : ∀ i, i < n → w.cell? ⟨b, i, none⟩ = some (.int .u64 (A i : Int))) (hA : ∀ i, i < n → A i < 18446744073709551616) :
    Calls Try.prog 5 #[.slice (some ⟨b, 0, none⟩) n cap] w fun e w' => (∃ r : Bool, e = .returned (.bool r) ∧ (r = true → WfTo n A n)) ∧ ∃ q, w' = w.drewN q := by
  have HC : Hid (∀ i, i < n → w.cell? ⟨b, i, none⟩ = some (.int .u64 (A i : Int))) := hc
  have HA : Hid (∀ i, i < n → A i < 18446744073709551616) := hA
  clear hc hA
  by_cases h1 : 1 ≤ n
  · go_enter Try.func5, Try.ntmps5
    go_wp2
    go_loopw [4] (fun i wr => ∃ k : Nat, k ≤ n ∧ i = .int .i64 k ∧ WfTo n A k ∧ ∃ q, wr = w.drewN q) (fun i _ => n - (intOf i).toNat)
    case atStart => exact ⟨0, Nat.zero_le _, rfl, fun i h => absurd h (Nat.not_lt_zero _), 0, rfl⟩
    case round =>
      obtain ⟨k, hk, rfl, hto, q, rfl⟩ := hrel
      have HT : Hid (WfTo n A k) := hto
      clear hto
      by_cases hlt : k < n
      · have hck := HC.out k hlt
        have hak := HA.out k hlt
        generalize hx : A k = x at hck hak
        have HX : Hid (A k = x) := hx
        clear hx
        go_wp2
        · go_ret
          exact ⟨⟨false, rfl, fun h => by cases h⟩, q, rfl⟩
        · go_ret
          exact ⟨⟨false, rfl, fun h => by cases h⟩, q, rfl⟩
        · go_ret
          exact ⟨⟨false, rfl, fun h => by cases h⟩, q, rfl⟩
        all_goals
          have HS : Hid (WfTo n A (k + 1)) := wf_step HX.out hak hlt hn HT.out (by assumption) (by assumption) (by first | (left; omega) | (right; assumption))
          go_loopw [6] (fun j wr => ∃ m : Nat, m ≤ n ∧ j = .int .i64 m ∧ ∃ q, wr = w.drewN q) (fun j _ => n - (intOf j).toNat)
          case atStart => exact ⟨k + 1, by omega, by go_num, q, rfl⟩
          case round =>
            obtain ⟨m, hm, rfl, q2, rfl⟩ := hrel
            by_cases hmn : m < n
            · have hcm := HC.out m hmn
              have ham := HA.out m hmn
              generalize A m = y at hcm ham
              have hmi : (0 : Int) ≤ (m : Int) := by omega
              have hmj : (m : Int) < (n : Int) := by omega
              by_cases hgd : (bits BinOp.and IntKind.u64 ((x : Int) / 2 ^ m) 1 == 1) = true
              · go_wp2
                go_quiet (fail)
                go_wp2
                · go_ret
                  exact ⟨⟨false, rfl, fun h => by cases h⟩, q2 + nq, World.drewN_drewN _ _ _⟩
                · exact ⟨⟨m + 1, by omega, by go_num, _, rfl⟩, by simp [intOf]; omega⟩
              · have hgf : (bits BinOp.and IntKind.u64 ((x : Int) / 2 ^ m) 1 == 1) = false := by simpa using hgd
                clear hgd
                go_wp2
                go_quiet (fail)
                go_wp2
                exact ⟨⟨m + 1, by omega, by go_num, _, rfl⟩, by simp [intOf]; omega⟩
            · go_wp2
              exact ⟨⟨k + 1, by omega, by go_num, HS.out, _, rfl⟩, by simp [intOf]; omega⟩
      · go_wp2
        go_ret
        exact ⟨⟨true, rfl, fun _ => by have e : k = n := by omega
                                       subst e
                                       exact HT.out⟩, q, rfl⟩
  · have h0 : n = 0 := by omega
    subst h0
    go_enter Try.func5, Try.ntmps5
    go_wp2
    go_ret
    exact ⟨⟨false, rfl, fun h => by cases h⟩, 0, rfl⟩

end Go.Proofs.Qxb6616637a
