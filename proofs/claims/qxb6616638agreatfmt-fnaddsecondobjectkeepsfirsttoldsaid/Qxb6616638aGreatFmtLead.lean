/-
  THE WALKS of canonical, BigEndian.Uint64, nameLead, leadAt.
-/
import Derived.Test.Qxb6616638aGreatFmtNewT
import Derived.Lib.Endian
import Derived.Lib.EndianBits
import Derived.Laws.BitsAllLaws
import Derived.Laws.IdiomCopy
namespace Go.Proofs.Qxb6616638aGreatFmt
open Go.RowKit
open Plain
set_option linter.unusedVariables false
set_option maxRecDepth 100000

variable {w : World}

theorem canonical_any (bd D k : Nat) (es : List Ent) (h : NT w bd D es) (hk : k < es.length) (hl : es.length ≤ 16383) :
    Calls Tryz.prog 42 #[.pointer (some ⟨D, 0, none⟩), .int .i64 k] w fun e w' => e = .returned (.bool true) ∧ w' = w := by
  obtain ⟨gr, l, c, e1, e2, e3, e4, e5⟩ := h.rew
  have cr := e5 (k / 64) (by omega)
  have hq : ((k : Int) / 64) < (l : Int) := by omega
  have hd : decide ((l : Int) ≤ (k : Int) / 64) = false := by simp; omega
  clear h e5
  go_enter Tryz.func42, Tryz.ntmps42
  have hb : bits .and .u64 0 (IntKind.u64.wrap ((2 : Int) ^ (k % 64))) = 0 := by
    rw [IntKind.wrap_u64, u64_and 0 _ (by omega) (by omega) (Int.emod_nonneg _ (by omega)) (Int.emod_lt_of_pos _ (by omega))]
    simp
  have HBT : Hid (bits .and .u64 0 (IntKind.u64.wrap ((2 : Int) ^ (k % 64))) = 0) := hb
  clear hb
  go_wp2
  go_ret
  exact ⟨ret_bool (by rw [HBT.out]; rfl), rfl⟩

theorem alloc_old {a : Addr} {v : Value} (o : Go.Obj) (h : w.cell? a = some v) : (w.alloc o).cell? a = some v :=
  (World.cell?_alloc_lt _ _ _ (World.block_lt_of_cell? _ _ h)).trans h

set_option maxHeartbeats 8000000 in
theorem be64_any (g o n c b0 b1 b2 b3 b4 b5 b6 b7 : Nat) (hn : 8 ≤ n) (c0 : w.cell? ⟨g, o, none⟩ = some (.int .u8 (b0 : Int))) (c1 : w.cell? ⟨g, o + 1, none⟩ = some (.int .u8 (b1 : Int))) (c2 : w.cell? ⟨g, o + 2, none⟩ = some (.int .u8 (b2 : Int))) (c3 : w.cell? ⟨g, o + 3, none⟩ = some (.int .u8 (b3 : Int))) (c4 : w.cell? ⟨g, o + 4, none⟩ = some (.int .u8 (b4 : Int))) (c5 : w.cell? ⟨g, o + 5, none⟩ = some (.int .u8 (b5 : Int))) (c6 : w.cell? ⟨g, o + 6, none⟩ = some (.int .u8 (b6 : Int))) (c7 : w.cell? ⟨g, o + 7, none⟩ = some (.int .u8 (b7 : Int))) (h0 : b0 < 256) (h1 : b1 < 256) (h2 : b2 < 256) (h3 : b3 < 256) (h4 : b4 < 256) (h5 : b5 < 256) (h6 : b6 < 256) (h7 : b7 < 256) :
    Calls Tryz.prog 55 #[.agg #[], .slice (some ⟨g, o, none⟩) n c] w fun e w' => e = .returned (.int .u64 (b7 + b6 * 256 + b5 * 65536 + b4 * 16777216 + b3 * 4294967296 + b2 * 1099511627776 + b1 * 281474976710656 + b0 * 72057594037927936 : Nat)) ∧ Below w.heap.size w w' := by
  have q0 : 0 < n := by omega
  have q1 : (1 : Int) < (n : Int) := by omega
  have q2 : (2 : Int) < (n : Int) := by omega
  have q3 : (3 : Int) < (n : Int) := by omega
  have q4 : (4 : Int) < (n : Int) := by omega
  have q5 : (5 : Int) < (n : Int) := by omega
  have q6 : (6 : Int) < (n : Int) := by omega
  have q7 : (7 : Int) < (n : Int) := by omega
  have d0 := alloc_old (.cells #[] 111) c0
  have d1 := alloc_old (.cells #[] 111) c1
  have d2 := alloc_old (.cells #[] 111) c2
  have d3 := alloc_old (.cells #[] 111) c3
  have d4 := alloc_old (.cells #[] 111) c4
  have d5 := alloc_old (.cells #[] 111) c5
  have d6 := alloc_old (.cells #[] 111) c6
  have d7 := alloc_old (.cells #[] 111) c7
  go_enter Tryz.func55, Tryz.ntmps55
  go_wp2
  go_quiet (fail)
  go_wp2
  go_ret
  refine ⟨?_, ((Below.refl _ w).alloc (Nat.le_refl _) _).trans ⟨rfl, rfl, rfl, Nat.le_refl _, fun _ _ => rfl⟩⟩
  simp (disch := omega) only [u64_or8, u64_or16, u64_or24, u64_or32, u64_or40, u64_or48, u64_or56]
  refine ret_int ?_
  omega

theorem below_setCells {B b : Nat} {a : World} (hb : B ≤ b) : ∀ (vs : List Value) (o : Nat) (w : World), Below B a w → Below B a (w.setCells b o vs)
  | [], _, _, h => h
  | v :: r, o, _, h => below_setCells hb r (o + 1) _ (h.setCell (p := ⟨b, o, none⟩) hb v)

namespace Plain
/-- Byte i of a name of k bytes at p, 0 past its end. -/
def nb (bs : Nat → Nat) (p k i : Nat) : Nat := if i < k then bs (p + i) else 0
/-- The lead of a name. -/
def ld (bs : Nat → Nat) (p k : Nat) : Nat := nb bs p k 5 + nb bs p k 4 * 256 + nb bs p k 3 * 65536 + nb bs p k 2 * 16777216 + nb bs p k 1 * 4294967296 + nb bs p k 0 * 1099511627776
theorem sum_of (y0 y1 y2 y3 y4 y5 : Nat) : y5 + y4 * 256 + y3 * 65536 + y2 * 16777216 + y1 * 4294967296 + y0 * 1099511627776 + 0 * 281474976710656 + 0 * 72057594037927936 = y5 + y4 * 256 + y3 * 65536 + y2 * 16777216 + y1 * 4294967296 + y0 * 1099511627776 := by
  omega
theorem ld_of (bs : Nat → Nat) (p k : Nat) : nb bs p k 5 + nb bs p k 4 * 256 + nb bs p k 3 * 65536 + nb bs p k 2 * 16777216 + nb bs p k 1 * 4294967296 + nb bs p k 0 * 1099511627776 = ld bs p k := by
  unfold ld
  rfl
end Plain

set_option maxHeartbeats 4000000 in
theorem nameLead_any (B p k c n : Nat) (bs : Nat → Nat) (hx : Txt w B n bs) (hB : B < w.heap.size) (hk : p + k ≤ n) (hn : n ≤ 16383) :
    Calls Tryz.prog 54 #[.slice (some ⟨B, p, none⟩) k c] w fun e w' => e = .returned (.int .u64 (ld bs p k : Nat)) ∧ Below w.heap.size w w' := by
  have HX := hide hx
  clear hx
  go_enter Tryz.func54, Tryz.ntmps54
  go_upto_region 2 with (fail)
  obtain ⟨W1, hW1⟩ : ∃ W1, W1 = w.alloc (.cells #[.int .u8 0, .int .u8 0, .int .u8 0, .int .u8 0, .int .u8 0, .int .u8 0, .int .u8 0, .int .u8 0] 130) := ⟨_, rfl⟩
  rw [← hW1]
  have hL : ∀ j, j < 8 → W1.cell? ⟨w.heap.size, j, none⟩ = some (.int .u8 0) := by
    intro j hj
    rw [hW1, World.cell?_alloc_new]
    have : j = 0 ∨ j = 1 ∨ j = 2 ∨ j = 3 ∨ j = 4 ∨ j = 5 ∨ j = 6 ∨ j = 7 := by omega
    rcases this with rfl | rfl | rfl | rfl | rfl | rfl | rfl | rfl <;> rfl
  have hF : ∀ j, W1.frozen? ⟨w.heap.size, j, none⟩ = false := by
    intro j
    rw [hW1, World.frozen?_alloc_new]
  have hb1 : Below w.heap.size w W1 := by rw [hW1]; exact (Below.refl _ _).alloc (Nat.le_refl _) _
  have hs1 : w.heap.size < W1.heap.size := by rw [hW1]; simp
  clear hW1
  obtain ⟨cs, hcs⟩ : ∃ cs : List Value, cs = (List.range (Nat.min k 6)).map (fun i => Value.int .u8 (bs (p + i) : Nat)) := ⟨_, rfl⟩
  have hcl : cs.length = Nat.min k 6 := by rw [hcs]; simp
  have hget : ∀ (j : Nat) (h : j < cs.length), cs[j] = Value.int .u8 (bs (p + j) : Nat) := by
    intro j h
    subst hcs
    simp
  have hcopy : ∀ ty, (Builtin.copy_ #[22, 22] ty #[.slice (some ⟨w.heap.size, 2, none⟩) 6 6, .slice (some ⟨B, p, none⟩) k c]).run Tryz.prog W1 = .ok (goInt cs.length) (W1.setCells w.heap.size 2 cs) := by
    intro ty
    refine run_copy_cells (P := Tryz.prog) W1 22 22 ty 5 w.heap.size 2 6 6 ⟨B, p, none⟩ k c cs Tryz.underlying22 (by kernel_rfl) hcl (fun j v hj => ?_) (fun j hj => ?_) (fun j _ => hF _) (fun v hv => ?_)
    · obtain ⟨hj1, hj2⟩ := List.getElem?_eq_some_iff.1 hj
      rw [← hj2, hget j hj1]
      have e : (⟨B, p, none⟩ : Addr).add j = ⟨B, p + j, none⟩ := by unfold Addr.add; split <;> simp_all
      rw [e, hb1.cell (p := ⟨B, p + j, none⟩) hB]
      exact HX.out.at _ (by rw [hcl] at hj1; have : Nat.min k 6 ≤ k := Nat.min_le_left _ _; omega)
    · have : Nat.min k 6 ≤ 6 := Nat.min_le_right _ _
      rw [hL (2 + j) (by omega)]
      rfl
    · rw [hcs] at hv
      obtain ⟨n, _, rfl⟩ := List.mem_map.1 hv
      rfl
  have hz : ∀ i, i < 2 → (W1.setCells w.heap.size 2 cs).cell? ⟨w.heap.size, 0 + i, none⟩ = some (.int .u8 ((0 : Nat) : Int)) := by
    intro i h2
    rw [Nat.zero_add, World.cell?_setCells_out w.heap.size cs 2 W1 _ (fun _ _ => .inl h2)]
    exact hL i (by omega)
  have hx8 : ∀ i, i < 6 → (W1.setCells w.heap.size 2 cs).cell? ⟨w.heap.size, 0 + (2 + i), none⟩ = some (.int .u8 (nb bs p k i : Int)) ∧ nb bs p k i < 256 := by
    intro i hi
    rw [Nat.zero_add]
    have hm : Nat.min k 6 ≤ 6 := Nat.min_le_right _ _
    have hm2 : Nat.min k 6 ≤ k := Nat.min_le_left _ _
    have hm3 : Nat.min k 6 = k ∨ Nat.min k 6 = 6 := by
      rcases Nat.le_total k 6 with h | h
      · exact .inl (Nat.min_eq_left h)
      · exact .inr (Nat.min_eq_right h)
    unfold nb
    by_cases h3 : i < k
    · rw [if_pos h3]
      refine ⟨?_, HX.out.lt _ (by omega)⟩
      have := World.cell?_setCells_in w.heap.size cs 2 W1 (fun j hj => by rw [hL (2 + j) (by omega)]; rfl) i (by omega)
      rw [hget] at this
      exact this
    · rw [if_neg h3]
      refine ⟨?_, by omega⟩
      rw [World.cell?_setCells_out w.heap.size cs 2 W1 _ (fun _ _ => .inr (by show 2 + cs.length ≤ 2 + i; omega))]
      exact hL (2 + i) (by omega)
  have hb2 : Below w.heap.size w (W1.setCells w.heap.size 2 cs) := below_setCells (Nat.le_refl _) cs 2 W1 hb1
  have hs2 : w.heap.size < (W1.setCells w.heap.size 2 cs).heap.size := World.block_lt_of_cell? _ ⟨w.heap.size, 0 + 0, none⟩ (hz 0 (by omega))
  have HX8 := hide hx8
  have HZ := hide hz
  have HB2 := hide hb2
  clear hcs hcl hget hL hF hx8 hb2 hb1 hz
  generalize W1.setCells w.heap.size 2 cs = W2 at *
  have HCALL : Hid (Calls Tryz.prog 55 #[.agg #[], .slice (some ⟨w.heap.size, 0, none⟩) 8 8] W2.drew fun e w' => e = .returned (.int .u64 (ld bs p k : Nat)) ∧ Below W2.heap.size W2 w') := by
    have hbe := be64_any (w := W2.drew) w.heap.size 0 8 8 0 0 (nb bs p k 0) (nb bs p k 1) (nb bs p k 2) (nb bs p k 3) (nb bs p k 4) (nb bs p k 5) (by omega) (HZ.out 0 (by omega)) (HZ.out 1 (by omega)) (HX8.out 0 (by omega)).1 (HX8.out 1 (by omega)).1 (HX8.out 2 (by omega)).1 (HX8.out 3 (by omega)).1 (HX8.out 4 (by omega)).1 (HX8.out 5 (by omega)).1
      (by omega) (by omega) (HX8.out 0 (by omega)).2 (HX8.out 1 (by omega)).2 (HX8.out 2 (by omega)).2 (HX8.out 3 (by omega)).2 (HX8.out 4 (by omega)).2 (HX8.out 5 (by omega)).2
    rw [sum_of] at hbe
    rw [ld_of bs p k] at hbe
    exact hbe.mono (fun e w3 h => ⟨h.1, h.2.os, h.2.tape, h.2.output, h.2.size, h.2.block⟩)
  clear HX8 HZ
  go_wp2
  go_region_with (go_at_call 55; refine HCALL.out.mono ?_; rintro e w3 ⟨rfl, hb3⟩)
  all_goals go_wp2
  all_goals go_ret
  all_goals exact ⟨rfl, HB2.out.trans (hb3.mono (by omega))⟩

end Go.Proofs.Qxb6616638aGreatFmt
