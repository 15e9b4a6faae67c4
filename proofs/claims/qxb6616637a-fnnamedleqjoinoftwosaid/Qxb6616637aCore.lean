/-
  THE WALK of FnNamedLeqJoinOfTwo at ranks of the slice.
-/
import Derived.Test.Qxb6616637aMain
namespace Go.Proofs.Qxb6616637a
open Go.RowKit
open Plain

set_option maxHeartbeats 2000000 in
theorem walk_core (x : Addr) (len cap : Nat) (zs : List Int) (r s : Nat) (w : World) (h64 : len ≤ 64) (hlc : len ≤ cap) (hz : zs.length = cap) (hc : ∀ i, i < zs.length → w.cell? (x.add i) = some (.int .u64 (zs.getD i 0))) (hwf : ∀ n ∈ zs, (Lit.int .u64 n).wf = true)
    (hr : r < len) (hs : s < len) :
    Calls Try.prog 3 #[.slice (some x) len cap, .int .u64 r, .int .u64 s] w fun e w' => e = .returned (.bool true) ∧ Below w.heap.size w w' := by
  obtain ⟨W1, W2, A, hmk, hcp, hA, hA2, hsz, hbel⟩ := copied x len cap zs w h64 hlc hz hc hwf
  have hnil := fun (w : World) => run_neq_slice_nil_any (P := Try.prog) w 22 23 (some x) len cap 0 0 Try.underlying22
  have HA : Hid (∀ i, i < len → W2.cell? ⟨w.heap.size, i, none⟩ = some (.int .u64 (A i : Int))) := hA
  have HB : Hid (∀ i, i < len → A i < 18446744073709551616) := hA2
  have hri : (r : Int) < (len : Int) := by omega
  have hsi : (s : Int) < (len : Int) := by omega
  clear hc hwf hz hA hA2
  go_enter Try.func3, Try.ntmps3
  go_wp2_with fail
  refine (zzBytes_yes _ len cap r s (by omega) _).mono ?_
  rintro e w' ⟨rfl, rfl⟩
  go_wp2_with fail
  refine (well_any A len len w'.heap.size W2 h64 HA.out HB.out).mono ?_
  rintro e w3 ⟨⟨b1, rfl, hb1⟩, q, rfl⟩
  cases b1
  · go_wp2
    go_ret
    exact ⟨rfl, below_drewN hbel _⟩
  have HWF : Hid (Wf len A) := (hb1 rfl).wf
  clear hb1
  go_wp2_with fail
  refine (closed_any A len len w'.heap.size (W2.drewN q) h64 HA.out HB.out HWF.out).mono ?_
  rintro e w3 ⟨⟨b2, rfl, hb2⟩, q2, rfl⟩
  cases b2
  · go_wp2
    go_ret
    exact ⟨rfl, below_drewN hbel _⟩
  have HJ : Hid (Join len A) := hb2 rfl
  clear hb2
  -- the first loop: the least rank above both
  have HC : Hid (∀ wr, Below W2.heap.size W2 wr → ∀ i, i < len → wr.cell? ⟨w'.heap.size, i, none⟩ = some (.int .u64 (A i : Int))) := fun wr hb i hi => (hb.cell (p := ⟨w'.heap.size, i, none⟩) hsz).trans (HA.out i hi)
  go_wp2_with fail
  go_loopw [9, 10] (fun c t wr => ∃ k : Nat, k ≤ len ∧ t = .int .u64 k ∧ c = .int .u64 len ∧ (∀ j, j < k → ((A r).testBit j && (A s).testBit j) = false) ∧ Below W2.heap.size W2 wr) (fun _ t _ => len - (intOf t).toNat)
  case atStart => exact ⟨0, Nat.zero_le _, rfl, rfl, fun j h => absurd h (Nat.not_lt_zero _), below_drewN (Below.refl _ _) _⟩
  case round =>
    obtain ⟨k, hk, rfl, rfl, hno, hbr⟩ := hrel
    have HN : Hid (∀ j, j < k → ((A r).testBit j && (A s).testBit j) = false) := hno
    clear hno
    by_cases hlt : k < len
    · have hki : (k : Int) < (len : Int) := by omega
      go_wp2_with fail
      refine (zzleq_any A len len w'.heap.size r k _ hr (by omega) (HC.out _ hbr r hr) (HB.out r hr)).mono ?_
      rintro e w4 ⟨rfl, hb4⟩
      have hbr4 := bt hbr (Nat.le_refl _) hb4
      generalize h1 : (A r).testBit k = c1
      have H1 : Hid ((A r).testBit k = c1) := h1
      clear h1
      cases c1
      · go_wp2
        refine ⟨⟨k + 1, by omega, by go_num, rfl, fun j hj => ?_, hbr4⟩, by simp [intOf]; omega⟩
        rcases Nat.lt_or_ge j k with h | h
        · exact HN.out j h
        · rw [show j = k by omega, H1.out]
          rfl
      go_wp2_with fail
      refine (zzleq_any A len len w'.heap.size s k _ hs (by omega) (HC.out _ hbr4 s hs) (HB.out s hs)).mono ?_
      rintro e w5 ⟨rfl, hb5⟩
      have hbr5 := bt hbr4 (Nat.le_refl _) hb5
      generalize h2 : (A s).testBit k = c2
      have H2 : Hid ((A s).testBit k = c2) := h2
      clear h2
      cases c2
      · go_wp2
        refine ⟨⟨k + 1, by omega, by go_num, rfl, fun j hj => ?_, hbr5⟩, by simp [intOf]; omega⟩
        rcases Nat.lt_or_ge j k with h | h
        · exact HN.out j h
        · rw [show j = k by omega, H2.out]
          simp
      -- the break: k is the least rank above both
      obtain ⟨m1, m2, m3⟩ := meets HWF.out HJ.out hr hs (c := k) (by rw [H1.out, H2.out]; rfl) HN.out
      have M2 : Hid (∀ t, (A k).testBit t = ((A r).testBit t && (A s).testBit t)) := m2
      have M3 : Hid ((A r).testBit s = decide (k = s)) := m3
      clear m2 m3
      have hcr := HC.out _ hbr5 r hr
      have hcs := HC.out _ hbr5 s hs
      have hbits := u64_and_nat _ _ (HB.out r hr) (HB.out s hs)
      have hun : (((A r &&& A s : Nat) : Int) != 0) = true := by
        generalize A r &&& A s = u at m1 ⊢
        simp
        omega
      have hkn : ((k : Int) == (len : Int)) = false := by simp; omega
      have hr0 : (0 : Int) ≤ (r : Int) := by omega
      have hs0 : (0 : Int) ≤ (s : Int) := by omega
      go_wp2
      go_quiet (fail)
      clear hbits hun m1
      go_wp2_with fail
      have hklt : k < len := hlt
      go_loopw [11] (fun t wr => ∃ m : Nat, m ≤ len ∧ t = .int .u64 m ∧ Below W2.heap.size W2 wr) (fun t _ => len - (intOf t).toNat)
      case atStart => exact ⟨0, Nat.zero_le _, rfl, below_drewN hbr5 _⟩
      case round =>
        clear hbr hbr4 hbr5 hb4 hb5 hcr hcs
        obtain ⟨m, hm, rfl, hbr⟩ := hrel
        by_cases hml : m < len
        · have hmi : (m : Int) < (len : Int) := by omega
          have hM := M2.out m
          go_wp2_with fail
          refine (zzleq_any A len len w'.heap.size r m _ hr (by omega) (HC.out _ hbr r hr) (HB.out r hr)).mono ?_
          rintro e w6 ⟨rfl, hb6⟩
          have hbr6 := bt hbr (Nat.le_refl _) hb6
          generalize (A r).testBit m = d1 at hM ⊢
          cases d1
          · have hM' : (A k).testBit m = false := hM
            clear hM
            go_wp2_with fail
            refine (zzleq_any A len len w'.heap.size k m _ hklt (by omega) (HC.out _ hbr6 k hklt) (HB.out k hklt)).mono ?_
            rintro e w7 ⟨rfl, hb7⟩
            have hbr7 := bt hbr6 (Nat.le_refl _) hb7
            rw [hM']
            clear hM'
            go_wp2
            exact ⟨⟨m + 1, by omega, by go_num, hbr7⟩, by simp [intOf]; omega⟩
          · go_wp2_with fail
            refine (zzleq_any A len len w'.heap.size s m _ hs (by omega) (HC.out _ hbr6 s hs) (HB.out s hs)).mono ?_
            rintro e w7 ⟨rfl, hb7⟩
            have hbr7 := bt hbr6 (Nat.le_refl _) hb7
            generalize (A s).testBit m = d2 at hM ⊢
            have HM : Hid ((A k).testBit m = d2) := hM
            clear hM
            cases d2
            · go_wp2_with fail
              refine (zzleq_any A len len w'.heap.size k m _ hklt (by omega) (HC.out _ hbr7 k hklt) (HB.out k hklt)).mono ?_
              rintro e w8 ⟨rfl, hb8⟩
              have hbr8 := bt hbr7 (Nat.le_refl _) hb8
              rw [HM.out]
              go_wp2
              exact ⟨⟨m + 1, by omega, by go_num, hbr8⟩, by simp [intOf]; omega⟩
            · go_wp2_with fail
              refine (zzleq_any A len len w'.heap.size k m _ hklt (by omega) (HC.out _ hbr7 k hklt) (HB.out k hklt)).mono ?_
              rintro e w8 ⟨rfl, hb8⟩
              have hbr8 := bt hbr7 (Nat.le_refl _) hb8
              rw [HM.out]
              go_wp2
              exact ⟨⟨m + 1, by omega, by go_num, hbr8⟩, by simp [intOf]; omega⟩
        · go_wp2_with fail
          refine (zzleq_any A len len w'.heap.size r s _ hr (by omega) (HC.out _ hbr r hr) (HB.out r hr)).mono ?_
          rintro e w6 ⟨rfl, hb6⟩
          have hbr6 := bt hbr (Nat.le_refl _) hb6
          rw [M3.out]
          by_cases hks : k = s
          · have hks' : ((k : Int) == (s : Int)) = true := by simp; omega
            rw [decide_eq_true hks]
            clear hks
            go_wp2
            go_ret
            exact ⟨rfl, hbel.trans (hbr6.mono hbel.size)⟩
          · have hks' : ((k : Int) == (s : Int)) = false := by simp; omega
            rw [decide_eq_false hks]
            clear hks
            go_wp2
            go_ret
            exact ⟨rfl, hbel.trans (hbr6.mono hbel.size)⟩
    · -- no rank lies above both
      obtain ⟨m1, m2, m3⟩ := apart HWF.out hr hs (fun j hj => HN.out j (by omega))
      have M2 : Hid ((A r).testBit s = false) := m2
      have M3 : Hid ((A s).testBit r = false) := m3
      clear m2 m3
      have hcr := HC.out _ hbr r hr
      have hcs := HC.out _ hbr s hs
      have hbits := u64_and_nat _ _ (HB.out r hr) (HB.out s hs)
      rw [m1] at hbits
      clear m1
      have hr0 : (0 : Int) ≤ (r : Int) := by omega
      have hs0 : (0 : Int) ≤ (s : Int) := by omega
      go_wp2
      go_quiet (fail)
      clear hbits
      have hbr1 := below_drewN hbr nq
      go_wp2_with fail
      refine (zzleq_any A len len w'.heap.size r s _ hr (by omega) (HC.out _ hbr1 r hr) (HB.out r hr)).mono ?_
      rintro e w6 ⟨rfl, hb6⟩
      have hbr6 := bt hbr1 (Nat.le_refl _) hb6
      rw [M2.out]
      go_wp2_with fail
      refine (zzleq_any A len len w'.heap.size s r _ hs (by omega) (HC.out _ hbr6 s hs) (HB.out s hs)).mono ?_
      rintro e w7 ⟨rfl, hb7⟩
      have hbr7 := bt hbr6 (Nat.le_refl _) hb7
      rw [M3.out]
      go_wp2
      go_ret
      exact ⟨rfl, hbel.trans (hbr7.mono hbel.size)⟩

end Go.Proofs.Qxb6616637a
