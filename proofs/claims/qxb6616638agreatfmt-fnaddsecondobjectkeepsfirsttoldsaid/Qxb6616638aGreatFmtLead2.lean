/-
  THE WALK of leadAt.
-/
import Derived.Test.Qxb6616638aGreatFmtLead
namespace Go.Proofs.Qxb6616638aGreatFmt
open Go.RowKit
open Plain
set_option linter.unusedVariables false
set_option maxRecDepth 100000

variable {w : World}

namespace Plain
theorem shr16 (b0 b1 b2 b3 b4 b5 b6 b7 : Nat) (h6 : b6 < 256) (h7 : b7 < 256) : (b7 + b6 * 256 + b5 * 65536 + b4 * 16777216 + b3 * 4294967296 + b2 * 1099511627776 + b1 * 281474976710656 + b0 * 72057594037927936) / 65536 = b5 + b4 * 256 + b3 * 65536 + b2 * 16777216 + b1 * 4294967296 + b0 * 1099511627776 := by omega
/-- The six bytes at p, whatever the name's length. -/
def six (bs : Nat → Nat) (p : Nat) : Nat := bs (p + 5) + bs (p + 4) * 256 + bs (p + 3) * 65536 + bs (p + 2) * 16777216 + bs (p + 1) * 4294967296 + bs p * 1099511627776
theorem ld_six (bs : Nat → Nat) (p k : Nat) (h : 6 ≤ k) : ld bs p k = six bs p := by
  unfold ld six nb
  rw [if_pos (by omega), if_pos (by omega), if_pos (by omega), if_pos (by omega), if_pos (by omega), if_pos (by omega), Nat.add_zero p]
end Plain

set_option linter.unusedSimpArgs false
theorem clr0 (bs : Nat → Nat) (p : Nat) (h : ∀ i, i < 6 → bs (p + i) < 256) : bits .andNot .u64 (six bs p : Int) 281474976710655 = ((ld bs p 0 : Nat) : Int) := by
  have l0 := h 0 (by omega); have l1 := h 1 (by omega); have l2 := h 2 (by omega); have l3 := h 3 (by omega); have l4 := h 4 (by omega); have l5 := h 5 (by omega)
  rw [Nat.add_zero] at l0
  have hs : six bs p < 18446744073709551616 := by unfold six; omega
  have e : six bs p % 18446744073709551616 / 281474976710656 * 281474976710656 = ld bs p 0 := by
    unfold six ld nb
    simp only [if_true, if_false, Nat.add_zero, Nat.zero_mul, Nat.zero_add, show (0 < 0) = False by simp, show (1 < 0) = False by simp, show (2 < 0) = False by simp, show (3 < 0) = False by simp, show (4 < 0) = False by simp, show (5 < 0) = False by simp]
    omega
  rw [show (281474976710655 : Int) = ((281474976710655 : Nat) : Int) from rfl, u64_andNot_nat _ _ hs (by omega), show 18446744073709551615 - 281474976710655 = 18446462598732840960 from rfl, nat_hi64_48, e]
theorem clr1 (bs : Nat → Nat) (p : Nat) (h : ∀ i, i < 6 → bs (p + i) < 256) : bits .andNot .u64 (six bs p : Int) 1099511627775 = ((ld bs p 1 : Nat) : Int) := by
  have l0 := h 0 (by omega); have l1 := h 1 (by omega); have l2 := h 2 (by omega); have l3 := h 3 (by omega); have l4 := h 4 (by omega); have l5 := h 5 (by omega)
  rw [Nat.add_zero] at l0
  have hs : six bs p < 18446744073709551616 := by unfold six; omega
  have e : six bs p % 18446744073709551616 / 1099511627776 * 1099511627776 = ld bs p 1 := by
    unfold six ld nb
    simp only [if_true, if_false, Nat.add_zero, Nat.zero_mul, Nat.zero_add, show (0 < 1) = True by simp, show (1 < 1) = False by simp, show (2 < 1) = False by simp, show (3 < 1) = False by simp, show (4 < 1) = False by simp, show (5 < 1) = False by simp]
    omega
  rw [show (1099511627775 : Int) = ((1099511627775 : Nat) : Int) from rfl, u64_andNot_nat _ _ hs (by omega), show 18446744073709551615 - 1099511627775 = 18446742974197923840 from rfl, nat_hi64_40, e]
theorem clr2 (bs : Nat → Nat) (p : Nat) (h : ∀ i, i < 6 → bs (p + i) < 256) : bits .andNot .u64 (six bs p : Int) 4294967295 = ((ld bs p 2 : Nat) : Int) := by
  have l0 := h 0 (by omega); have l1 := h 1 (by omega); have l2 := h 2 (by omega); have l3 := h 3 (by omega); have l4 := h 4 (by omega); have l5 := h 5 (by omega)
  rw [Nat.add_zero] at l0
  have hs : six bs p < 18446744073709551616 := by unfold six; omega
  have e : six bs p % 18446744073709551616 / 4294967296 * 4294967296 = ld bs p 2 := by
    unfold six ld nb
    simp only [if_true, if_false, Nat.add_zero, Nat.zero_mul, Nat.zero_add, show (0 < 2) = True by simp, show (1 < 2) = True by simp, show (2 < 2) = False by simp, show (3 < 2) = False by simp, show (4 < 2) = False by simp, show (5 < 2) = False by simp]
    omega
  rw [show (4294967295 : Int) = ((4294967295 : Nat) : Int) from rfl, u64_andNot_nat _ _ hs (by omega), show 18446744073709551615 - 4294967295 = 18446744069414584320 from rfl, nat_hi64_32, e]
theorem clr3 (bs : Nat → Nat) (p : Nat) (h : ∀ i, i < 6 → bs (p + i) < 256) : bits .andNot .u64 (six bs p : Int) 16777215 = ((ld bs p 3 : Nat) : Int) := by
  have l0 := h 0 (by omega); have l1 := h 1 (by omega); have l2 := h 2 (by omega); have l3 := h 3 (by omega); have l4 := h 4 (by omega); have l5 := h 5 (by omega)
  rw [Nat.add_zero] at l0
  have hs : six bs p < 18446744073709551616 := by unfold six; omega
  have e : six bs p % 18446744073709551616 / 16777216 * 16777216 = ld bs p 3 := by
    unfold six ld nb
    simp only [if_true, if_false, Nat.add_zero, Nat.zero_mul, Nat.zero_add, show (0 < 3) = True by simp, show (1 < 3) = True by simp, show (2 < 3) = True by simp, show (3 < 3) = False by simp, show (4 < 3) = False by simp, show (5 < 3) = False by simp]
    omega
  rw [show (16777215 : Int) = ((16777215 : Nat) : Int) from rfl, u64_andNot_nat _ _ hs (by omega), show 18446744073709551615 - 16777215 = 18446744073692774400 from rfl, nat_hi64_24, e]
theorem clr4 (bs : Nat → Nat) (p : Nat) (h : ∀ i, i < 6 → bs (p + i) < 256) : bits .andNot .u64 (six bs p : Int) 65535 = ((ld bs p 4 : Nat) : Int) := by
  have l0 := h 0 (by omega); have l1 := h 1 (by omega); have l2 := h 2 (by omega); have l3 := h 3 (by omega); have l4 := h 4 (by omega); have l5 := h 5 (by omega)
  rw [Nat.add_zero] at l0
  have hs : six bs p < 18446744073709551616 := by unfold six; omega
  have e : six bs p % 18446744073709551616 / 65536 * 65536 = ld bs p 4 := by
    unfold six ld nb
    simp only [if_true, if_false, Nat.add_zero, Nat.zero_mul, Nat.zero_add, show (0 < 4) = True by simp, show (1 < 4) = True by simp, show (2 < 4) = True by simp, show (3 < 4) = True by simp, show (4 < 4) = False by simp, show (5 < 4) = False by simp]
    omega
  rw [show (65535 : Int) = ((65535 : Nat) : Int) from rfl, u64_andNot_nat _ _ hs (by omega), show 18446744073709551615 - 65535 = 18446744073709486080 from rfl, nat_hi64_16, e]
theorem clr5 (bs : Nat → Nat) (p : Nat) (h : ∀ i, i < 6 → bs (p + i) < 256) : bits .andNot .u64 (six bs p : Int) 255 = ((ld bs p 5 : Nat) : Int) := by
  have l0 := h 0 (by omega); have l1 := h 1 (by omega); have l2 := h 2 (by omega); have l3 := h 3 (by omega); have l4 := h 4 (by omega); have l5 := h 5 (by omega)
  rw [Nat.add_zero] at l0
  have hs : six bs p < 18446744073709551616 := by unfold six; omega
  have e : six bs p % 18446744073709551616 / 256 * 256 = ld bs p 5 := by
    unfold six ld nb
    simp only [if_true, if_false, Nat.add_zero, Nat.zero_mul, Nat.zero_add, show (0 < 5) = True by simp, show (1 < 5) = True by simp, show (2 < 5) = True by simp, show (3 < 5) = True by simp, show (4 < 5) = True by simp, show (5 < 5) = False by simp]
    omega
  rw [show (255 : Int) = ((255 : Nat) : Int) from rfl, u64_andNot_nat _ _ hs (by omega), show 18446744073709551615 - 255 = 18446744073709551360 from rfl, nat_hi64_8, e]

set_option maxHeartbeats 4000000 in
theorem leadAt_any (B f t n cap : Nat) (bs : Nat → Nat) (hx : Txt w B n bs) (hB : B < w.heap.size) (hf : f ≤ t) (ht : t < n) (hn : n ≤ 16383) (hcap : n ≤ cap) :
    Calls Tryz.prog 43 #[.slice (some ⟨B, 0, none⟩) n cap, .int .i64 f, .int .i64 t] w fun e w' => e = .returned (.int .u64 (ld bs f (t - f) : Nat)) ∧ Below w.heap.size w w' := by
  have HX := hide hx
  clear hx
  by_cases h8 : n < f + 8
  · have h8' : (n : Int) < (f : Int) + 8 := by omega
    go_enter Tryz.func43, Tryz.ntmps43
    go_wp2_with fail
    refine (nameLead_any B f (t - f) (cap - f) n bs HX.out hB (by omega) hn).mono ?_
    rintro e w' ⟨rfl, hb⟩
    go_wp2
    go_ret
    exact ⟨rfl, hb⟩
  · have h8' : ¬ (n : Int) < (f : Int) + 8 := by omega
    have HCALL : Hid (Calls Tryz.prog 55 #[.agg #[], .slice (some ⟨B, f, none⟩) (n - f) (cap - f)] w.drew fun e w' => e = .returned (.int .u64 (bs (f + 7) + bs (f + 6) * 256 + six bs f * 65536 : Nat)) ∧ Below w.heap.size w w') := by
      have hc : ∀ i, i < 8 → w.drew.cell? ⟨B, f + i, none⟩ = some (.int .u8 (bs (f + i) : Int)) := fun i hi => HX.out.at (f + i) (by omega)
      have hl : ∀ i, i < 8 → bs (f + i) < 256 := fun i hi => HX.out.lt (f + i) (by omega)
      have hbe := be64_any (w := w.drew) B f (n - f) (cap - f) (bs f) (bs (f + 1)) (bs (f + 2)) (bs (f + 3)) (bs (f + 4)) (bs (f + 5)) (bs (f + 6)) (bs (f + 7)) (by omega) (hc 0 (by omega)) (hc 1 (by omega)) (hc 2 (by omega)) (hc 3 (by omega)) (hc 4 (by omega)) (hc 5 (by omega)) (hc 6 (by omega)) (hc 7 (by omega))
        (hl 0 (by omega)) (hl 1 (by omega)) (hl 2 (by omega)) (hl 3 (by omega)) (hl 4 (by omega)) (hl 5 (by omega)) (hl 6 (by omega)) (hl 7 (by omega))
      have e : bs (f + 7) + bs (f + 6) * 256 + bs (f + 5) * 65536 + bs (f + 4) * 16777216 + bs (f + 3) * 4294967296 + bs (f + 2) * 1099511627776 + bs (f + 1) * 281474976710656 + bs f * 72057594037927936 = bs (f + 7) + bs (f + 6) * 256 + six bs f * 65536 := by
        unfold six
        omega
      rw [e] at hbe
      exact hbe.mono (fun e w3 h => ⟨h.1, h.2.os, h.2.tape, h.2.output, h.2.size, h.2.block⟩)
    have l6 := HX.out.lt (f + 6) (by omega)
    have l7 := HX.out.lt (f + 7) (by omega)
    have hsx : six bs f < 281474976710656 := by
      have l0 := HX.out.lt f (by omega)
      have l1 := HX.out.lt (f + 1) (by omega)
      have l2 := HX.out.lt (f + 2) (by omega)
      have l3 := HX.out.lt (f + 3) (by omega)
      have l4 := HX.out.lt (f + 4) (by omega)
      have l5 := HX.out.lt (f + 5) (by omega)
      unfold six
      omega
    have HV : Hid (∀ s, ((bs (f + 7) + bs (f + 6) * 256 + s * 65536 : Nat) : Int) / 65536 = (s : Int)) := by
      intro s
      omega
    obtain ⟨V, hV⟩ : ∃ V : Nat, V = bs (f + 7) + bs (f + 6) * 256 + six bs f * 65536 := ⟨_, rfl⟩
    have hv1 : (V : Int) / 65536 = (six bs f : Int) := by rw [hV]; exact HV.out _
    rw [← hV] at HCALL
    clear hV HV l6 l7
    have HL6 : Hid (∀ i, i < 6 → bs (f + i) < 256) := fun i hi => HX.out.lt (f + i) (by omega)
    obtain ⟨X, hX⟩ : ∃ X, X = six bs f := ⟨_, rfl⟩
    have HXX := hide hX
    rw [← hX] at hv1 hsx
    clear hX
    by_cases h6 : t - f < 6
    · obtain ⟨k, rfl⟩ : ∃ k, t = f + k := ⟨t - f, by omega⟩
      have hk : k = 0 ∨ k = 1 ∨ k = 2 ∨ k = 3 ∨ k = 4 ∨ k = 5 := by omega
      rcases hk with rfl | rfl | rfl | rfl | rfl | rfl
      · have h6' : ((f + 0 : Nat) : Int) - (f : Int) = 0 := by omega
        have HL : Hid (bits .andNot .u64 (X : Int) 281474976710655 = ((ld bs f (f + 0 - f) : Nat) : Int)) := by show _ = _; rw [HXX.out, show f + 0 - f = 0 by omega]; exact clr0 bs f HL6.out
        go_enter Tryz.func43, Tryz.ntmps43
        go_wp2
        go_region_with (go_at_call 55; refine HCALL.out.mono ?_; rintro e w3 ⟨rfl, hb3⟩)
        all_goals go_wp2
        all_goals go_ret
        all_goals exact ⟨ret_int HL.out, hb3⟩
      · have h6' : ((f + 1 : Nat) : Int) - (f : Int) = 1 := by omega
        have HL : Hid (bits .andNot .u64 (X : Int) 1099511627775 = ((ld bs f (f + 1 - f) : Nat) : Int)) := by show _ = _; rw [HXX.out, show f + 1 - f = 1 by omega]; exact clr1 bs f HL6.out
        go_enter Tryz.func43, Tryz.ntmps43
        go_wp2
        go_region_with (go_at_call 55; refine HCALL.out.mono ?_; rintro e w3 ⟨rfl, hb3⟩)
        all_goals go_wp2
        all_goals go_ret
        all_goals exact ⟨ret_int HL.out, hb3⟩
      · have h6' : ((f + 2 : Nat) : Int) - (f : Int) = 2 := by omega
        have HL : Hid (bits .andNot .u64 (X : Int) 4294967295 = ((ld bs f (f + 2 - f) : Nat) : Int)) := by show _ = _; rw [HXX.out, show f + 2 - f = 2 by omega]; exact clr2 bs f HL6.out
        go_enter Tryz.func43, Tryz.ntmps43
        go_wp2
        go_region_with (go_at_call 55; refine HCALL.out.mono ?_; rintro e w3 ⟨rfl, hb3⟩)
        all_goals go_wp2
        all_goals go_ret
        all_goals exact ⟨ret_int HL.out, hb3⟩
      · have h6' : ((f + 3 : Nat) : Int) - (f : Int) = 3 := by omega
        have HL : Hid (bits .andNot .u64 (X : Int) 16777215 = ((ld bs f (f + 3 - f) : Nat) : Int)) := by show _ = _; rw [HXX.out, show f + 3 - f = 3 by omega]; exact clr3 bs f HL6.out
        go_enter Tryz.func43, Tryz.ntmps43
        go_wp2
        go_region_with (go_at_call 55; refine HCALL.out.mono ?_; rintro e w3 ⟨rfl, hb3⟩)
        all_goals go_wp2
        all_goals go_ret
        all_goals exact ⟨ret_int HL.out, hb3⟩
      · have h6' : ((f + 4 : Nat) : Int) - (f : Int) = 4 := by omega
        have HL : Hid (bits .andNot .u64 (X : Int) 65535 = ((ld bs f (f + 4 - f) : Nat) : Int)) := by show _ = _; rw [HXX.out, show f + 4 - f = 4 by omega]; exact clr4 bs f HL6.out
        go_enter Tryz.func43, Tryz.ntmps43
        go_wp2
        go_region_with (go_at_call 55; refine HCALL.out.mono ?_; rintro e w3 ⟨rfl, hb3⟩)
        all_goals go_wp2
        all_goals go_ret
        all_goals exact ⟨ret_int HL.out, hb3⟩
      · have h6' : ((f + 5 : Nat) : Int) - (f : Int) = 5 := by omega
        have HL : Hid (bits .andNot .u64 (X : Int) 255 = ((ld bs f (f + 5 - f) : Nat) : Int)) := by show _ = _; rw [HXX.out, show f + 5 - f = 5 by omega]; exact clr5 bs f HL6.out
        go_enter Tryz.func43, Tryz.ntmps43
        go_wp2
        go_region_with (go_at_call 55; refine HCALL.out.mono ?_; rintro e w3 ⟨rfl, hb3⟩)
        all_goals go_wp2
        all_goals go_ret
        all_goals exact ⟨ret_int HL.out, hb3⟩
    · have h6' : ¬ (t : Int) - (f : Int) < 6 := by omega
      have HL : Hid (ld bs f (t - f) = X) := by show _ = _; rw [HXX.out, ld_six _ _ _ (by omega)]
      go_enter Tryz.func43, Tryz.ntmps43
      go_wp2
      go_region_with (go_at_call 55; refine HCALL.out.mono ?_; rintro e w3 ⟨rfl, hb3⟩)
      all_goals go_wp2
      all_goals go_ret
      all_goals exact ⟨ret_int (by rw [HL.out]), hb3⟩

end Go.Proofs.Qxb6616638aGreatFmt
