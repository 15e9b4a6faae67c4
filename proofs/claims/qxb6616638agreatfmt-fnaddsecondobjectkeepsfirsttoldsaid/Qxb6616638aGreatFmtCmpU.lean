/-
  THE WALK of zzCmpUnits.
-/
import Derived.Test.Qxb6616638aGreatFmtScan2
import Derived.Test.Qxb6616638aGreatFmtOrd2
namespace Go.Proofs.Qxb6616638aGreatFmt
open Go.RowKit
open Plain
set_option linter.unusedVariables false
set_option maxRecDepth 100000

namespace Plain
theorem cmpU_drop : ∀ (k : Nat) (x y : List Nat), k ≤ x.length → k ≤ y.length → (∀ i, i < k → x.getD i 0 = y.getD i 0) → cmpU x y = cmpU (x.drop k) (y.drop k)
  | 0, _, _, _, _, _ => rfl
  | k + 1, [], _, h, _, _ => by simp at h
  | k + 1, _ :: _, [], _, h, _ => by simp at h
  | k + 1, a :: x, b :: y, h1, h2, h => by
    have h0 := h 0 (by omega)
    simp at h0
    subst h0
    rw [cmpU, if_pos rfl]
    have := cmpU_drop k x y (by simpa using h1) (by simpa using h2) (fun i hi => by simpa using h (i + 1) (by omega))
    rw [this]
    rfl

theorem cmpU_at {x y : List Nat} {k : Nat} (h1 : k < x.length) (h2 : k < y.length) (h : ∀ i, i < k → x.getD i 0 = y.getD i 0) (hne : x.getD k 0 ≠ y.getD k 0) : cmpU x y = if x.getD k 0 < y.getD k 0 then -1 else 1 := by
  rw [cmpU_drop k x y (by omega) (by omega) h, List.drop_eq_getElem_cons h1, List.drop_eq_getElem_cons h2]
  have e1 : x.getD k 0 = x[k] := by simp [List.getD_eq_getElem?_getD, h1]
  have e2 : y.getD k 0 = y[k] := by simp [List.getD_eq_getElem?_getD, h2]
  rw [e1, e2] at hne ⊢
  rw [cmpU, if_neg hne]

theorem cmpU_end {x y : List Nat} {k : Nat} (h1 : k ≤ x.length) (h2 : k ≤ y.length) (h : ∀ i, i < k → x.getD i 0 = y.getD i 0) (he : k = x.length ∨ k = y.length) : cmpU x y = if x.length < y.length then -1 else if y.length < x.length then 1 else 0 := by
  rw [cmpU_drop k x y h1 h2 h]
  rcases Nat.lt_trichotomy x.length y.length with c | c | c
  · have e : k = x.length := by omega
    rw [if_pos c, e, List.drop_length, List.drop_eq_getElem_cons c]
    rfl
  · have e : k = x.length := by omega
    rw [if_neg (by omega), if_neg (by omega), e, List.drop_length, c, List.drop_length]
    rfl
  · have e : k = y.length := by omega
    rw [if_neg (by omega), if_pos c, e, List.drop_length, List.drop_eq_getElem_cons c]
    rfl
end Plain

theorem drewN3 (w : World) (a b c : Nat) : ((w.drewN a).drewN b).drewN c = w.drewN (a + b + c) := by simp

/-- A slice of u16 that reads as these numbers. -/
def U16 (w : World) (v : Value) (xs : List Nat) : Prop := ∃ a c, v = .slice a xs.length c ∧ (∀ i, i < xs.length → ∃ b o, a = some ⟨b, o, none⟩) ∧ ∀ b o, a = some ⟨b, o, none⟩ → ∀ i, i < xs.length → w.cell? ⟨b, o + i, none⟩ = some (.int .u16 (xs.getD i 0 : Nat))

set_option maxHeartbeats 2000000 in
theorem cmpUnits_any (x y : List Nat) (gx gy ox oy cx cy : Nat) (w : World) (hx : x.length ≤ 40000) (hy : y.length ≤ 40000) (ax ay : Option Addr) (hax : 0 < x.length → ax = some ⟨gx, ox, none⟩) (hay : 0 < y.length → ay = some ⟨gy, oy, none⟩)
    (h1 : ∀ i, i < x.length → w.cell? ⟨gx, ox + i, none⟩ = some (.int .u16 (x.getD i 0 : Nat))) (h2 : ∀ i, i < y.length → w.cell? ⟨gy, oy + i, none⟩ = some (.int .u16 (y.getD i 0 : Nat))) :
    Calls Tryz.prog 24 #[.slice ax x.length cx, .slice ay y.length cy] w fun e w' => e = .returned (.int .i64 (cmpU x y)) ∧ ∃ q, w' = w.drewN q := by
  have H1 := hide h1
  have H2 := hide h2
  have HAX := hide hax
  have HAY := hide hay
  clear h1 h2 hax hay
  go_enter Tryz.func24, Tryz.ntmps24
  go_wp2
  go_loopw [5] (fun t wr => ∃ k : Nat, t = .int .i64 k ∧ k ≤ x.length ∧ k ≤ y.length ∧ (∀ i, i < k → x.getD i 0 = y.getD i 0) ∧ ∃ q, wr = w.drewN q) (fun t _ => x.length - (intOf t).toNat)
  case atStart => exact ⟨0, rfl, Nat.zero_le _, Nat.zero_le _, fun i h => absurd h (Nat.not_lt_zero _), 0, rfl⟩
  case round =>
    obtain ⟨k, rfl, hkx, hky, hk, q, rfl⟩ := hrel
    have HK := hide hk
    clear hk
    by_cases hlx : k < x.length
    · by_cases hly : k < y.length
      · have eax := HAX.out (by omega)
        have eay := HAY.out (by omega)
        subst eax
        subst eay
        have c1 := H1.out k hlx
        have c2 := H2.out k hly
        have HC : Hid (x.getD k 0 ≠ y.getD k 0 → cmpU x y = if x.getD k 0 < y.getD k 0 then -1 else 1) := fun hne => cmpU_at hlx hly HK.out hne
        have HE : Hid (x.getD k 0 = y.getD k 0 → ∀ i, i < k + 1 → x.getD i 0 = y.getD i 0) := fun he i hi => by
          rcases Nat.lt_or_ge i k with c | c
          · exact HK.out i c
          · rw [show i = k by omega]; exact he
        generalize x.getD k 0 = a at c1 HC HE
        generalize y.getD k 0 = b at c2 HC HE
        have i1 : (k : Int) < (x.length : Int) := by omega
        have i2 : (k : Int) < (y.length : Int) := by omega
        have i0 : (0 : Int) ≤ (k : Int) := by omega
        by_cases hab : a = b
        · have hne : ((a : Int) != (b : Int)) = false := by simp [hab]
          have HN := hide (HE.out hab)
          clear hab HC HE
          go_wp2
          go_quiet (fail)
          go_wp2
          exact ⟨⟨k + 1, by go_num, by omega, by omega, HN.out, q + nq, by simp⟩, by simp [intOf]; omega⟩
        · have hne : ((a : Int) != (b : Int)) = true := by simp; omega
          have HR := hide (HC.out hab)
          clear HC HE
          by_cases hlt : a < b
          · have hlt' : (a : Int) < (b : Int) := by omega
            have HR2 : Hid (cmpU x y = -1) := by show _ = _; rw [HR.out, if_pos hlt]
            clear HR hab hlt
            go_wp2
            go_quiet (fail)
            go_wp2
            go_quiet (fail)
            go_wp2
            go_ret
            exact ⟨ret_int (by rw [HR2.out]), _, drewN3 _ _ _ _⟩
          · have hlt' : ¬ (a : Int) < (b : Int) := by omega
            have HR2 : Hid (cmpU x y = 1) := by show _ = _; rw [HR.out, if_neg hlt]
            clear HR hab hlt
            go_wp2
            go_quiet (fail)
            go_wp2
            go_quiet (fail)
            go_wp2
            go_ret
            exact ⟨ret_int (by rw [HR2.out]), _, drewN3 _ _ _ _⟩
      · have HR : Hid (cmpU x y = 1) := by
          show _ = _
          rw [cmpU_end hkx hky HK.out (by omega), if_neg (by omega), if_pos (by omega)]
        have i1 : (k : Int) < (x.length : Int) := by omega
        have i2 : decide ((k : Int) < (y.length : Int)) = false := by simp; omega
        have i3 : ¬ (x.length : Int) < (y.length : Int) := by omega
        have i4 : (y.length : Int) < (x.length : Int) := by omega
        go_wp2
        go_ret
        exact ⟨ret_int (by rw [HR.out]), q, rfl⟩
    · have HR : Hid (cmpU x y = if x.length < y.length then -1 else if y.length < x.length then 1 else 0) := cmpU_end hkx hky HK.out (by omega)
      have i1 : decide ((k : Int) < (x.length : Int)) = false := by simp; omega
      have i4 : ¬ (y.length : Int) < (x.length : Int) := by omega
      by_cases hxy : x.length < y.length
      · have i3 : (x.length : Int) < (y.length : Int) := by omega
        have HR2 : Hid (cmpU x y = -1) := by show _ = _; rw [HR.out, if_pos hxy]
        clear HR hxy
        go_wp2
        go_ret
        exact ⟨ret_int (by rw [HR2.out]), q, rfl⟩
      · have i3 : ¬ (x.length : Int) < (y.length : Int) := by omega
        have HR2 : Hid (cmpU x y = 0) := by show _ = _; rw [HR.out, if_neg hxy, if_neg (by omega)]
        clear HR hxy
        go_wp2
        go_ret
        exact ⟨ret_int (by rw [HR2.out]), q, rfl⟩

end Go.Proofs.Qxb6616638aGreatFmt
