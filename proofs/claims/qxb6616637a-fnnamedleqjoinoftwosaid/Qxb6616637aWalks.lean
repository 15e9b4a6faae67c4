/-
  THE WALKS of the callees: ZZNamedLeq, (*named).leq, namedLowestBit.
-/
import Derived.Test.Qxb6616637aRows
import Derived.Test.Qxb6616637aLaw
import Derived.WalkKit
import Derived.WalkSpells
import Derived.WalkSmall
import Derived.Laws.BitsAllLaws
import Derived.Deep.QuietTactic
import Derived.BigQuiet
namespace Go.Proofs.Qxb6616637a
open Go.RowKit
open Plain

theorem ret_int {k : IntKind} {a b : Int} (h : a = b) : Ending.returned (.int k a) = .returned (.int k b) := by rw [h]
theorem ret_bool {a b : Bool} (h : a = b) : Ending.returned (.bool a) = .returned (.bool b) := by rw [h]

theorem and_one (Y : Nat) (h : Y < 18446744073709551616) : bits BinOp.and IntKind.u64 (Y : Int) 1 = ((Y % 2 : Nat) : Int) := by
  have := u64_and_nat Y 1 h (by omega)
  rw [Nat.and_one_is_mod] at this
  exact this

theorem bit_mod (X k : Nat) : X.testBit k = decide (X / 2 ^ k % 2 = 1) := Nat.testBit_eq_decide_div_mod_eq

theorem low_step {X Y k : Nat} (hX : X < 18446744073709551616) (hk : k < 64) (hY : Y = X / 2 ^ k) (hno : ∀ j, j < k → X.testBit j = false) (h0 : Y ≠ 0) (he : Y % 2 = 0) :
    k + 1 < 64 ∧ Y / 2 = X / 2 ^ (k + 1) ∧ Y / 2 ≠ 0 ∧ ∀ j, j < k + 1 → X.testBit j = false := by
  have hdiv : Y / 2 = X / 2 ^ (k + 1) := by rw [hY, Nat.div_div_eq_div_mul, Nat.pow_succ]
  refine ⟨?_, hdiv, by omega, fun j hj => ?_⟩
  · rcases Nat.lt_or_ge (k + 1) 64 with h | h
    · exact h
    · have e : k + 1 = 64 := by omega
      have hz : X / 2 ^ 64 = 0 := Nat.div_eq_of_lt hX
      rw [e, hz] at hdiv
      omega
  · rcases Nat.lt_or_ge j k with h | h
    · exact hno j h
    · have e : j = k := by omega
      subst e
      rw [bit_mod, ← hY]
      simp [he]

theorem and_pow (a s : Nat) (ha : a < 18446744073709551616) (hs : s < 64) : (bits BinOp.and IntKind.u64 (a : Int) (IntKind.u64.wrap (2 ^ s)) != 0) = a.testBit s := by
  have hp : 2 ^ s < 18446744073709551616 := Nat.pow_lt_pow_right (by omega) hs (a := 2) (n := 64)
  have e : IntKind.u64.wrap (2 ^ s) = ((2 ^ s : Nat) : Int) := by
    rw [IntKind.wrap_u64]
    have : ((2 : Int) ^ s) = ((2 ^ s : Nat) : Int) := by simp
    rw [this]
    generalize 2 ^ s = p at hp ⊢
    omega
  rw [e, u64_and_nat a (2 ^ s) ha hp]
  have hz : (a &&& 2 ^ s = 0) ↔ a.testBit s = false := by
    constructor
    · intro h
      have h2 := congrArg (fun x => x.testBit s) h
      simpa [Nat.testBit_and, Nat.testBit_two_pow_self] using h2
    · intro h
      apply Nat.eq_of_testBit_eq
      intro i
      rw [Nat.testBit_and, Nat.testBit_two_pow]
      by_cases e : s = i
      · subst e; simp [h]
      · simp [e]
  cases hb : a.testBit s with
  | false => rw [hz.2 hb]; rfl
  | true =>
    have h3 : a &&& 2 ^ s ≠ 0 := fun h => by rw [hz.1 h] at hb; cases hb
    generalize a &&& 2 ^ s = q at h3 ⊢
    simp
    omega

theorem low_any (X : Nat) (h0 : X ≠ 0) (h1 : X < 18446744073709551616) (w : World) :
    Calls Try.prog 8 #[.int .u64 X] w fun e w' => (∃ k : Nat, e = .returned (.int .u64 k) ∧ Lowest X k) ∧ w' = w := by
  go_enter Try.func8, Try.ntmps8
  go_wp2
  go_loop [0, 3] (fun x i => ∃ k Y : Nat, k < 64 ∧ i = .int .u64 k ∧ x = .int .u64 Y ∧ Y = X / 2 ^ k ∧ Y ≠ 0 ∧ ∀ j, j < k → X.testBit j = false) (fun x _ => (intOf x).toNat)
  case atStart => exact ⟨0, X, by omega, rfl, rfl, by simp, h0, fun j h => absurd h (Nat.not_lt_zero _)⟩
  case round =>
    obtain ⟨k, Y, hk, rfl, rfl, hY, hY0, hno⟩ := hrel
    have HY : Hid (Y = X / 2 ^ k) := hY
    have HN : Hid (∀ j, j < k → X.testBit j = false) := hno
    clear hY hno
    have hYb : Y < 18446744073709551616 := by rw [HY.out]; exact Nat.lt_of_le_of_lt (Nat.div_le_self _ _) h1
    go_wp2
    · rename_i hev
      rw [and_one Y hYb] at hev
      have hev' : Y % 2 = 0 := by simp at hev; omega
      obtain ⟨k1, k2, k3, k4⟩ := low_step h1 hk HY.out HN.out hY0 hev'
      go_round
      case rel => exact ⟨k + 1, Y / 2, k1, by go_num, by go_num, k2, k3, k4⟩
      case measure => simp [intOf]; omega
    · rename_i hod _
      rw [and_one Y hYb] at hod
      have hod' : Y % 2 = 1 := by simp at hod; omega
      go_ret
      exact ⟨⟨k, rfl, by rw [bit_mod, ← HY.out]; simp [hod'], HN.out⟩, rfl⟩

theorem leq_any (A : Nat → Nat) (n cap b g r s : Nat) (w : World) (hg : w.cell? ⟨g, 2, none⟩ = some (.slice (some ⟨b, 0, none⟩) n cap)) (hr : r < n) (hs : s < 64) (hc : w.cell? ⟨b, r, none⟩ = some (.int .u64 (A r : Int))) (hA : A r < 18446744073709551616) :
    Calls Try.prog 9 #[.pointer (some ⟨g, 0, none⟩), .agg #[.int .u64 r, .pointer none, .bool false], .agg #[.int .u64 s, .pointer none, .bool false]] w fun e w' => e = .returned (.bool ((A r).testBit s)) ∧ Below w.heap.size w w' := by
  have hgl := World.block_lt_of_cell? _ _ hg
  have hbl := World.block_lt_of_cell? _ _ hc
  go_enter Try.func9, Try.ntmps9
  go_wp2
  go_quiet (fail)
  go_wp2
  go_ret
  exact ⟨ret_bool (and_pow _ _ hA hs), below_drewN (((Below.refl _ _).alloc (Nat.le_refl _) _).alloc (by simp) _) _⟩

theorem zzleq_any (A : Nat → Nat) (n cap b r s : Nat) (w : World) (hr : r < n) (hs : s < 64) (hc : w.cell? ⟨b, r, none⟩ = some (.int .u64 (A r : Int))) (hA : A r < 18446744073709551616) :
    Calls Try.prog 7 #[.slice (some ⟨b, 0, none⟩) n cap, .int .u64 r, .int .u64 s] w fun e w' => e = .returned (.bool ((A r).testBit s)) ∧ Below w.heap.size w w' := by
  have hbl : b < w.heap.size := World.block_lt_of_cell? _ _ hc
  go_enter Try.func7, Try.ntmps7
  go_wp2_with fail
  refine (leq_any A n cap b w.heap.size r s _ (by simp) hr hs ?_ hA).mono ?_
  · rw [World.cell?_alloc_lt _ _ _ hbl]
    exact hc
  rintro e w' ⟨rfl, hb⟩
  go_wp2
  go_ret
  exact ⟨rfl, ((Below.refl _ _).alloc (Nat.le_refl _) _).trans (hb.mono (by simp))⟩

end Go.Proofs.Qxb6616637a
