/-
  THE WALKS of the law's scanner: zzStringEnd, zzWord, zzNumberEnd, zzScalarEnd.
-/
import Derived.Test.Qxb6616638aGreatFmtScan
namespace Go.Proofs.Qxb6616638aGreatFmt
open Go.RowKit
open Plain
set_option linter.unusedVariables false
set_option maxRecDepth 100000

/-- -1, or a place of which p holds; draws alone. -/
def EndGives (w : World) (p : Nat → Prop) (e : Ending) (w' : World) : Prop :=
  (e = .returned (.int .i64 (-1)) ∨ ∃ k : Nat, e = .returned (.int .i64 k) ∧ p k) ∧ ∃ q, w' = w.drewN q

theorem EndGives.weaken {w : World} {p p' : Nat → Prop} {e : Ending} {w' : World} (h : EndGives w p e w') (hp : ∀ k, p k → p' k) : EndGives w p' e w' :=
  ⟨h.1.imp id (fun ⟨k, a, b⟩ => ⟨k, a, hp k b⟩), h.2⟩

theorem Txt.drewN {w : World} {B n : Nat} {bs : Nat → Nat} (h : Txt w B n bs) (q : Nat) : Txt (w.drewN q) B n bs := h

set_option maxHeartbeats 1000000 in
theorem string_any (B n cap i : Nat) (bs : Nat → Nat) (w : World) (hn : n ≤ 16383) (hi : i < n) (ht : Txt w B n bs) :
    Calls Tryz.prog 29 #[.slice (some ⟨B, 0, none⟩) n cap, .int .i64 i] w (EndGives w (Str bs n i)) := by
  have HT : Hid (Txt w B n bs) := ht
  clear ht
  go_enter Tryz.func29, Tryz.ntmps29
  go_wp2
  go_loopw [5] (fun t wr => (∃ (j : Nat) (ls : List Nat), t = .int .i64 j ∧ i + 1 ≤ j ∧ j ≤ n ∧ Chars bs (i + 1) ls j) ∧ ∃ q, wr = w.drewN q) (fun t _ => n - (intOf t).toNat)
  case atStart => exact ⟨⟨i + 1, [], by go_num, Nat.le_refl _, by omega, rfl⟩, 0, rfl⟩
  case round =>
    obtain ⟨⟨j, ls, rfl, hij, hjn, hch⟩, q, rfl⟩ := hrel
    have HCH := hide hch
    clear hch
    by_cases hlt : j < n
    · have hc := HT.out.at j hlt
      have hx := HT.out.lt j hlt
      have hji : (j : Int) < (n : Int) := by omega
      have hj0 : (0 : Int) ≤ (j : Int) := by omega
      generalize hxx : bs j = x at hc hx
      have HX := hide hxx
      clear hxx
      by_cases q1 : x = 34
      · subst q1
        go_wp2
        go_ret
        exact ⟨.inr ⟨j + 1, ret_int (by omega), by omega, by omega, ls, HCH.out⟩, q, rfl⟩
      · have q1' : ((x : Int) == 34) = false := by simp; omega
        by_cases q2 : x = 92
        · subst q2
          go_wp2
          go_ret
          exact ⟨.inl rfl, q, rfl⟩
        · have q2' : ((x : Int) == 92) = false := by simp; omega
          by_cases q3 : x < 32
          · go_wp2
            go_ret
            exact ⟨.inl rfl, q, rfl⟩
          · go_wp2_with fail
            refine (utf_any B n cap j bs _ hn hlt (HT.out.drewN q)).mono ?_
            rintro e w' ⟨⟨l, rfl, hl⟩, q4, rfl⟩
            have HL := hide hl
            clear hl
            by_cases hl0 : l = 0
            · subst hl0
              go_wp2
              go_ret
              exact ⟨.inl rfl, q + q4, by simp⟩
            · have hl0' : ((l : Int) == 0) = false := by simp; omega
              have hsq : Sq bs j l ∧ j + l ≤ n := by
                rcases unhide HL with h | h
                · exact absurd h hl0
                · exact h
              have hle : j + l ≤ n := hsq.2
              have HN : Hid (Chars bs (i + 1) (ls ++ [l]) (j + l)) := HCH.out.snoc ⟨hsq.1, by rw [HX.out]; omega, by rw [HX.out]; exact q1, by rw [HX.out]; exact q2⟩
              clear hsq
              go_wp2
              exact ⟨⟨⟨j + l, ls ++ [l], by go_num, by omega, hle, HN.out⟩, q + q4, by simp⟩, by simp [intOf]; omega⟩
    · go_wp2
      go_ret
      exact ⟨.inl rfl, q, rfl⟩

set_option maxHeartbeats 1000000 in
theorem word_any (B n cap i : Nat) (bs : Nat → Nat) (s : ByteArray) (w : World) (hn : n ≤ 16383) (hi : i < n) (ht : Txt w B n bs) (hs : 0 < s.size) (hs2 : s.size ≤ 5) :
    Calls Tryz.prog 37 #[.slice (some ⟨B, 0, none⟩) n cap, .int .i64 i, .string s] w (EndGives w (fun e => i < e ∧ e ≤ n)) := by
  have HT : Hid (Txt w B n bs) := ht
  clear ht
  by_cases hlen : i + s.size ≤ n
  · go_enter Tryz.func37, Tryz.ntmps37
    go_wp2
    go_loopw [7] (fun t wr => (∃ m : Nat, t = .int .i64 m ∧ m ≤ s.size) ∧ ∃ q, wr = w.drewN q) (fun t _ => s.size - (intOf t).toNat)
    case atStart => exact ⟨⟨0, rfl, Nat.zero_le _⟩, 0, rfl⟩
    case round =>
      obtain ⟨⟨m, rfl, hm⟩, q, rfl⟩ := hrel
      by_cases hlt : m < s.size
      · have hc := HT.out.at (i + m) (by omega)
        have hji : (i : Int) + (m : Int) < (n : Int) := by omega
        have hj0 : (0 : Int) ≤ (i : Int) + (m : Int) := by omega
        have hmi : (m : Int) < (s.size : Int) := by omega
        have hm0 : (0 : Int) ≤ (m : Int) := by omega
        go_wp2
        go_quiet (fail)
        go_wp2
        · go_ret
          exact ⟨.inl rfl, q + nq, by simp⟩
        · exact ⟨⟨⟨m + 1, by go_num, by omega⟩, q + nq, by simp⟩, by simp [intOf]; omega⟩
      · go_wp2
        go_ret
        exact ⟨.inr ⟨i + s.size, ret_int (by omega), by omega, by omega⟩, q, rfl⟩
  · go_enter Tryz.func37, Tryz.ntmps37
    go_wp2
    go_ret
    exact ⟨.inl rfl, 0, rfl⟩

end Go.Proofs.Qxb6616638aGreatFmt
