/-
  slices.Sort at []uint64 over this program: walk texts turned from the kit's worked sort at []int.
-/
import Derived.Test.Qxb6616638aGreatFmtSuB12
import Derived.Sort.WalkB2
namespace Go.Proofs.Qxb6616638aGreatFmt
open Go.RowKit Go.Sort
set_option linter.unusedVariables false
set_option maxRecDepth 100000

set_option maxHeartbeats 3200000 in
set_option maxRecDepth 1000000 in
theorem Su.siftDown_int (blk off len cap : Nat) (d : Array Int) (hlen : d.size = len) (lo hi first : Nat) (w : World) (hH : Holds encU w blk off d) (hlo : lo ≤ hi) (hb : first + hi ≤ d.size) (hsz : d.size < 4611686018427387904) :
    Calls Tryz.prog 81 #[.slice (some ⟨blk, off, none⟩) len cap, .int .i64 lo, .int .i64 hi, .int .i64 first] w fun e w' => e = .returned (.tuple #[]) ∧ ∃ n, w' = putRow encU (Sort.ahead w n) blk off (siftDown ltInt hi first lo d) := by
  subst hlen
  go_enter Tryz.func81, Tryz.ntmps81
  go_wp2
  go_loopg [8] (hi - lo) (fun k s8 wr => ∃ (root : Nat) (dk : Array Int) (n : Nat), s8 = .int .i64 root ∧ root ≤ hi ∧ hi - root ≤ k ∧ dk.size = d.size ∧ wr = putRow encU (Sort.ahead w n) blk off dk ∧ siftDown ltInt hi first root dk = siftDown ltInt hi first lo d)
  case atStart => exact ⟨lo, d, 0, rfl, hlo, Nat.le_refl _, rfl, (putRow_self encU w blk off d hH).symm, rfl⟩
  case round =>
    obtain ⟨root, dk, n, rfl, hr, hk, hds, hwr, heq⟩ := hrel
    have hHk : Holds encU wr blk off dk := by rw [hwr]; exact holds_putRow encU _ blk off d dk (holds_ahead encU w n blk off d hH) hds
    -- THE ROW's TWO FAMILIES (the authors' Derived/CellFam.lean finds each cell in them)
    have hcw : ∀ t, t < d.size → wr.cell? ⟨blk, off + t, none⟩ = some (.int .u64 dk[t]!) := fun t ht => (hHk t (by omega)).1
    have hfw : ∀ t, t < d.size → wr.frozen? ⟨blk, off + t, none⟩ = false := fun t ht => (hHk t (by omega)).2
    have A : Aside (wr = putRow encU (Sort.ahead w n) blk off dk) := hwr
    clear hwr hH hHk
    by_cases h0 : hi ≤ 2 * root + 1
    · -- no child: the loop is left
      have h0z : (hi : Int) ≤ 2 * (root : Int) + 1 := by omega
      go_wp2
      go_end0
      refine ⟨rfl, n, ?_⟩
      rw [A.out, ← heq, sd_end ltInt dk h0]
    · -- (the tests, AS THE WALK SPELLS THEM: over Int: a guard that is not decided stops the quiet walk)
      have h0z : ¬ ((hi : Int) ≤ 2 * (root : Int) + 1) := by omega
      by_cases h1 : 2 * root + 2 < hi
      · have h1z : 2 * (root : Int) + 1 + 1 < (hi : Int) := by omega
        go_wp2_with fail
        go_big_quiet (first | (go_at_call 67; refine Calls.quiet_of_same (Su.cmp_Less_int _ _ _)))
        go_wp2_with fail
        · -- THE RIGHT CHILD IS THE GREATER
          have hL : ltInt dk[first + 2 * root + 1]! dk[first + 2 * root + 2]! = true := by assumption
          revert nq; intro nq1      -- (the next quiet region brings an 'nq' of its own)
          have hcw2 : ∀ t, t < d.size → (wr.drewN nq1).cell? ⟨blk, off + t, none⟩ = some (.int .u64 dk[t]!) := hcw
          have hfw2 : ∀ t, t < d.size → (wr.drewN nq1).frozen? ⟨blk, off + t, none⟩ = false := hfw
          have A2 : Aside (wr.drewN nq1 = putRow encU (Sort.ahead w (n + nq1)) blk off dk) := drewN_world encU A.out nq1
          clear hcw hfw A
          generalize wr.drewN nq1 = wr2 at hcw2 hfw2 A2 ⊢
          go_big_quiet (first | (go_at_call 67; refine Calls.quiet_of_same (Su.cmp_Less_int _ _ _)))
          go_wp2_with fail
          · -- the hole is not less than the greater child: return
            have hS : ltInt dk[first + root]! dk[first + 2 * root + 2]! = false := by
              have : (!ltInt dk[first + root]! dk[first + 2 * root + 2]!) = true := by assumption
              simpa using this
            (try simp only [Exit.inBlock, Exit.then]); refine bodyPost_ret (results_none rfl _ _ _) rfl ?_      -- (an explicit 'return' of a function without results)
            refine ⟨rfl, n + nq1 + nq, ?_⟩
            rw [drewN_world encU A2.out nq, ← heq, sd_right_stop ltInt dk h1 hL hS]
          · -- it is: they are swapped, and the hole goes down
            have hG : ltInt dk[first + root]! dk[first + 2 * root + 2]! = true := by
              have : (!ltInt dk[first + root]! dk[first + 2 * root + 2]!) = false := by assumption
              simpa using this
            have hcw3 : ∀ t, t < d.size → (wr2.drewN nq).cell? ⟨blk, off + t, none⟩ = some (.int .u64 dk[t]!) := hcw2
            have hfw3 : ∀ t, t < d.size → (wr2.drewN nq).frozen? ⟨blk, off + t, none⟩ = false := hfw2
            have A3 : Aside (wr2.drewN nq = putRow encU (Sort.ahead w (n + nq1 + nq)) blk off dk) := drewN_world encU A2.out nq
            clear hcw2 hfw2 A2
            generalize wr2.drewN nq = wr3 at hcw3 hfw3 A3 ⊢
            go_region
            go_wp2
            go_roundg (hi - (2 * root + 2))
            case measure => omega
            case rel =>
              refine ⟨2 * root + 2, swp dk (first + root) (first + (2 * root + 1 + 1)), n + nq1 + nq + 1, by simp <;> omega, by omega, Nat.le_refl _, by rw [size_swp]; exact hds, swap_world encU (by omega) (by omega) A3.out rfl rfl, ?_⟩
              rw [← heq, sd_right_go ltInt dk h1 hL hG]
        · -- THE LEFT CHILD IS NOT LESS THAN THE RIGHT
          have hL : ltInt dk[first + 2 * root + 1]! dk[first + 2 * root + 2]! = false := by assumption
          revert nq; intro nq1      -- (the next quiet region brings an 'nq' of its own)
          have hcw2 : ∀ t, t < d.size → (wr.drewN nq1).cell? ⟨blk, off + t, none⟩ = some (.int .u64 dk[t]!) := hcw
          have hfw2 : ∀ t, t < d.size → (wr.drewN nq1).frozen? ⟨blk, off + t, none⟩ = false := hfw
          have A2 : Aside (wr.drewN nq1 = putRow encU (Sort.ahead w (n + nq1)) blk off dk) := drewN_world encU A.out nq1
          clear hcw hfw A
          generalize wr.drewN nq1 = wr2 at hcw2 hfw2 A2 ⊢
          go_big_quiet (first | (go_at_call 67; refine Calls.quiet_of_same (Su.cmp_Less_int _ _ _)))
          go_wp2_with fail
          · -- the hole is not less than the greater child: return
            have hS : ltInt dk[first + root]! dk[first + 2 * root + 1]! = false := by
              have : (!ltInt dk[first + root]! dk[first + 2 * root + 1]!) = true := by assumption
              simpa using this
            (try simp only [Exit.inBlock, Exit.then]); refine bodyPost_ret (results_none rfl _ _ _) rfl ?_      -- (an explicit 'return' of a function without results)
            refine ⟨rfl, n + nq1 + nq, ?_⟩
            rw [drewN_world encU A2.out nq, ← heq, sd_left_stop ltInt dk (by omega) (fun _ => hL) hS]
          · -- it is: they are swapped, and the hole goes down
            have hG : ltInt dk[first + root]! dk[first + 2 * root + 1]! = true := by
              have : (!ltInt dk[first + root]! dk[first + 2 * root + 1]!) = false := by assumption
              simpa using this
            have hcw3 : ∀ t, t < d.size → (wr2.drewN nq).cell? ⟨blk, off + t, none⟩ = some (.int .u64 dk[t]!) := hcw2
            have hfw3 : ∀ t, t < d.size → (wr2.drewN nq).frozen? ⟨blk, off + t, none⟩ = false := hfw2
            have A3 : Aside (wr2.drewN nq = putRow encU (Sort.ahead w (n + nq1 + nq)) blk off dk) := drewN_world encU A2.out nq
            clear hcw2 hfw2 A2
            generalize wr2.drewN nq = wr3 at hcw3 hfw3 A3 ⊢
            go_region
            go_wp2
            go_roundg (hi - (2 * root + 1))
            case measure => omega
            case rel =>
              refine ⟨2 * root + 1, swp dk (first + root) (first + (2 * root + 1)), n + nq1 + nq + 1, by simp <;> omega, by omega, Nat.le_refl _, by rw [size_swp]; exact hds, swap_world encU (by omega) (by omega) A3.out rfl rfl, ?_⟩
              rw [← heq, sd_left_go ltInt dk (by omega) (fun _ => hL) hG]
      · -- THERE IS NO RIGHT CHILD
        have h1z : decide (2 * (root : Int) + 1 + 1 < (hi : Int)) = false := decide_eq_false (by omega)      -- (a guard that is FALSE: said so outright: from '¬ ..' the walk did not decide it)
        go_wp2_with fail
        go_big_quiet (first | (go_at_call 67; refine Calls.quiet_of_same (Su.cmp_Less_int _ _ _)))
        go_wp2_with fail
        revert nq; intro nq1      -- (the next quiet region brings an 'nq' of its own)
        have hcw2 : ∀ t, t < d.size → (wr.drewN nq1).cell? ⟨blk, off + t, none⟩ = some (.int .u64 dk[t]!) := hcw
        have hfw2 : ∀ t, t < d.size → (wr.drewN nq1).frozen? ⟨blk, off + t, none⟩ = false := hfw
        have A2 : Aside (wr.drewN nq1 = putRow encU (Sort.ahead w (n + nq1)) blk off dk) := drewN_world encU A.out nq1
        clear hcw hfw A
        generalize wr.drewN nq1 = wr2 at hcw2 hfw2 A2 ⊢
        go_big_quiet (first | (go_at_call 67; refine Calls.quiet_of_same (Su.cmp_Less_int _ _ _)))
        go_wp2_with fail
        · -- the hole is not less than the greater child: return
          have hS : ltInt dk[first + root]! dk[first + 2 * root + 1]! = false := by
            have : (!ltInt dk[first + root]! dk[first + 2 * root + 1]!) = true := by assumption
            simpa using this
          (try simp only [Exit.inBlock, Exit.then]); refine bodyPost_ret (results_none rfl _ _ _) rfl ?_      -- (an explicit 'return' of a function without results)
          refine ⟨rfl, n + nq1 + nq, ?_⟩
          rw [drewN_world encU A2.out nq, ← heq, sd_left_stop ltInt dk (by omega) (fun h => absurd h h1) hS]
        · -- it is: they are swapped, and the hole goes down
          have hG : ltInt dk[first + root]! dk[first + 2 * root + 1]! = true := by
            have : (!ltInt dk[first + root]! dk[first + 2 * root + 1]!) = false := by assumption
            simpa using this
          have hcw3 : ∀ t, t < d.size → (wr2.drewN nq).cell? ⟨blk, off + t, none⟩ = some (.int .u64 dk[t]!) := hcw2
          have hfw3 : ∀ t, t < d.size → (wr2.drewN nq).frozen? ⟨blk, off + t, none⟩ = false := hfw2
          have A3 : Aside (wr2.drewN nq = putRow encU (Sort.ahead w (n + nq1 + nq)) blk off dk) := drewN_world encU A2.out nq
          clear hcw2 hfw2 A2
          generalize wr2.drewN nq = wr3 at hcw3 hfw3 A3 ⊢
          go_region
          go_wp2
          go_roundg (hi - (2 * root + 1))
          case measure => omega
          case rel =>
            refine ⟨2 * root + 1, swp dk (first + root) (first + (2 * root + 1)), n + nq1 + nq + 1, by simp <;> omega, by omega, Nat.le_refl _, by rw [size_swp]; exact hds, swap_world encU (by omega) (by omega) A3.out rfl rfl, ?_⟩
            rw [← heq, sd_left_go ltInt dk (by omega) (fun h => absurd h h1) hG]

end Go.Proofs.Qxb6616638aGreatFmt
