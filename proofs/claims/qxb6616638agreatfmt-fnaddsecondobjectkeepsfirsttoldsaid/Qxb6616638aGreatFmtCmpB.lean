/-
  THE WALKS of cmp.Compare at int and byte, of CompareUTF16.
-/
import Derived.Test.Qxb6616638aGreatFmtCmpU
import Derived.Deep.QuietTactic
import Derived.BigQuiet
namespace Go.Proofs.Qxb6616638aGreatFmt
open Go.RowKit
open Plain
set_option linter.unusedVariables false
set_option maxRecDepth 100000

namespace Plain
/-- cmp.Compare. -/
def cmpI (a b : Int) : Int := if a < b then -1 else if b < a then 1 else 0

theorem cmpB_drop : ∀ (k : Nat) (x y : List Nat), k ≤ x.length → k ≤ y.length → (∀ i, i < k → x.getD i 0 = y.getD i 0) → cmpB x y = cmpB (x.drop k) (y.drop k)
  | 0, _, _, _, _, _ => rfl
  | k + 1, [], _, h, _, _ => by simp at h
  | k + 1, _ :: _, [], _, h, _ => by simp at h
  | k + 1, a :: x, b :: y, h1, h2, h => by
    have h0 := h 0 (by omega)
    simp at h0
    subst h0
    rw [cmpB, if_pos rfl]
    have := cmpB_drop k x y (by simpa using h1) (by simpa using h2) (fun i hi => by simpa using h (i + 1) (by omega))
    rw [this]
    rfl

theorem cmpB_at {x y : List Nat} {k : Nat} (h1 : k < x.length) (h2 : k < y.length) (h : ∀ i, i < k → x.getD i 0 = y.getD i 0) (hne : x.getD k 0 ≠ y.getD k 0) :
    cmpB x y = if 238 ≤ x.getD k 0 ∧ 238 ≤ y.getD k 0 ∧ (240 ≤ x.getD k 0 ∧ y.getD k 0 < 240 ∨ x.getD k 0 < 240 ∧ 240 ≤ y.getD k 0) then (if y.getD k 0 < x.getD k 0 then -1 else 1) else if x.getD k 0 < y.getD k 0 then -1 else 1 := by
  rw [cmpB_drop k x y (by omega) (by omega) h, List.drop_eq_getElem_cons h1, List.drop_eq_getElem_cons h2]
  have e1 : x.getD k 0 = x[k] := by simp [List.getD_eq_getElem?_getD, h1]
  have e2 : y.getD k 0 = y[k] := by simp [List.getD_eq_getElem?_getD, h2]
  rw [e1, e2] at hne ⊢
  rw [cmpB, if_neg hne]

theorem cmpB_end {x y : List Nat} {k : Nat} (h1 : k ≤ x.length) (h2 : k ≤ y.length) (h : ∀ i, i < k → x.getD i 0 = y.getD i 0) (he : k = x.length ∨ k = y.length) : cmpB x y = cmpI (x.length : Int) (y.length : Int) := by
  unfold cmpI
  rw [cmpB_drop k x y h1 h2 h]
  rcases Nat.lt_trichotomy x.length y.length with c | c | c
  · have e : k = x.length := by omega
    rw [if_pos (by omega), e, List.drop_length, List.drop_eq_getElem_cons c]
    rfl
  · have e : k = x.length := by omega
    rw [if_neg (by omega), if_neg (by omega), e, List.drop_length, c, List.drop_length]
    rfl
  · have e : k = y.length := by omega
    rw [if_neg (by omega), if_pos (by omega), e, List.drop_length, List.drop_eq_getElem_cons c]
    rfl
end Plain

theorem nan79 (x : Int) (w : World) : Calls Tryz.prog 79 #[.int .i64 x] w fun e w' => e = .returned (.bool false) ∧ w' = w := by
  go_enter Tryz.func79, Tryz.ntmps79
  go_wp2
  go_ret
  exact ⟨by simp, rfl⟩
theorem nan80 (x : Int) (w : World) : Calls Tryz.prog 80 #[.int .u8 x] w fun e w' => e = .returned (.bool false) ∧ w' = w := by
  go_enter Tryz.func80, Tryz.ntmps80
  go_wp2
  go_ret
  exact ⟨by simp, rfl⟩

theorem compareI_any (x y : Int) (w : World) : Calls Tryz.prog 58 #[.int .i64 x, .int .i64 y] w fun e w' => e = .returned (.int .i64 (cmpI x y)) ∧ w' = w := by
  have HC : Hid (cmpI x y = if x < y then -1 else if y < x then 1 else 0) := rfl
  rcases Int.lt_trichotomy x y with h | h | h
  · have HV : Hid (cmpI x y = -1) := by show _ = _; rw [HC.out, if_pos h]
    go_enter Tryz.func58, Tryz.ntmps58
    go_wp2_with (go_at_call 79; refine (nan79 _ _).mono ?_; rintro e w' ⟨rfl, rfl⟩)
    go_ret
    exact ⟨ret_int (by rw [HV.out]), rfl⟩
  · subst h
    have HV : Hid (cmpI x x = 0) := by show _ = _; rw [HC.out, if_neg (by omega), if_neg (by omega)]
    have h1 : ¬ x < x := by omega
    go_enter Tryz.func58, Tryz.ntmps58
    go_wp2_with (go_at_call 79; refine (nan79 _ _).mono ?_; rintro e w' ⟨rfl, rfl⟩)
    go_ret
    exact ⟨ret_int (by rw [HV.out]), rfl⟩
  · have HV : Hid (cmpI x y = 1) := by show _ = _; rw [HC.out, if_neg (by omega), if_pos h]
    have h1 : ¬ x < y := by omega
    go_enter Tryz.func58, Tryz.ntmps58
    go_wp2_with (go_at_call 79; refine (nan79 _ _).mono ?_; rintro e w' ⟨rfl, rfl⟩)
    go_ret
    exact ⟨ret_int (by rw [HV.out]), rfl⟩

theorem compareB_any (x y : Int) (w : World) : Calls Tryz.prog 59 #[.int .u8 x, .int .u8 y] w fun e w' => e = .returned (.int .i64 (cmpI x y)) ∧ w' = w := by
  have HC : Hid (cmpI x y = if x < y then -1 else if y < x then 1 else 0) := rfl
  rcases Int.lt_trichotomy x y with h | h | h
  · have HV : Hid (cmpI x y = -1) := by show _ = _; rw [HC.out, if_pos h]
    go_enter Tryz.func59, Tryz.ntmps59
    go_wp2_with (go_at_call 80; refine (nan80 _ _).mono ?_; rintro e w' ⟨rfl, rfl⟩)
    go_ret
    exact ⟨ret_int (by rw [HV.out]), rfl⟩
  · subst h
    have HV : Hid (cmpI x x = 0) := by show _ = _; rw [HC.out, if_neg (by omega), if_neg (by omega)]
    have h1 : ¬ x < x := by omega
    go_enter Tryz.func59, Tryz.ntmps59
    go_wp2_with (go_at_call 80; refine (nan80 _ _).mono ?_; rintro e w' ⟨rfl, rfl⟩)
    go_ret
    exact ⟨ret_int (by rw [HV.out]), rfl⟩
  · have HV : Hid (cmpI x y = 1) := by show _ = _; rw [HC.out, if_neg (by omega), if_pos h]
    have h1 : ¬ x < y := by omega
    go_enter Tryz.func59, Tryz.ntmps59
    go_wp2_with (go_at_call 80; refine (nan80 _ _).mono ?_; rintro e w' ⟨rfl, rfl⟩)
    go_ret
    exact ⟨ret_int (by rw [HV.out]), rfl⟩

set_option maxHeartbeats 4000000 in
theorem compareUTF16_any (x y : List Nat) (gx gy ox oy cx cy : Nat) (w : World) (hx : x.length ≤ 40000) (hy : y.length ≤ 40000)
    (h1 : ∀ i, i < x.length → w.cell? ⟨gx, ox + i, none⟩ = some (.int .u8 (x.getD i 0 : Nat))) (h2 : ∀ i, i < y.length → w.cell? ⟨gy, oy + i, none⟩ = some (.int .u8 (y.getD i 0 : Nat))) :
    Calls Tryz.prog 46 #[.slice (some ⟨gx, ox, none⟩) x.length cx, .slice (some ⟨gy, oy, none⟩) y.length cy] w fun e w' => e = .returned (.int .i64 (cmpB x y)) ∧ ∃ q, w' = w.drewN q := by
  have H1 := hide h1
  have H2 := hide h2
  clear h1 h2
  go_enter Tryz.func46, Tryz.ntmps46
  go_wp2
  go_loopw [5] (fun t wr => ∃ k : Nat, t = .int .i64 k ∧ k ≤ x.length ∧ k ≤ y.length ∧ (∀ i, i < k → x.getD i 0 = y.getD i 0) ∧ ∃ q, wr = w.drewN q) (fun t _ => x.length - (intOf t).toNat)
  case atStart => exact ⟨0, rfl, Nat.zero_le _, Nat.zero_le _, fun i h => absurd h (Nat.not_lt_zero _), 0, rfl⟩
  case round =>
    obtain ⟨k, rfl, hkx, hky, hk, q, rfl⟩ := hrel
    have HK := hide hk
    clear hk
    by_cases hlx : k < x.length
    · by_cases hly : k < y.length
      · have c1 := H1.out k hlx
        have c2 := H2.out k hly
        have HC : Hid (x.getD k 0 ≠ y.getD k 0 → cmpB x y = if 238 ≤ x.getD k 0 ∧ 238 ≤ y.getD k 0 ∧ (240 ≤ x.getD k 0 ∧ y.getD k 0 < 240 ∨ x.getD k 0 < 240 ∧ 240 ≤ y.getD k 0) then (if y.getD k 0 < x.getD k 0 then -1 else 1) else if x.getD k 0 < y.getD k 0 then -1 else 1) := fun hne => cmpB_at hlx hly HK.out hne
        have HE : Hid (x.getD k 0 = y.getD k 0 → ∀ i, i < k + 1 → x.getD i 0 = y.getD i 0) := fun he i hi => by
          rcases Nat.lt_or_ge i k with c | c
          · exact HK.out i c
          · rw [show i = k by omega]; exact he
        generalize x.getD k 0 = a at c1 HC HE
        generalize y.getD k 0 = b at c2 HC HE
        have i1 : (k : Int) < (x.length : Int) := by omega
        have i2 : (k : Int) < (y.length : Int) := by omega
        have i0 : (0 : Int) ≤ (k : Int) := by omega
        by_cases hab : a = b
        · have hne : ((a : Int) == (b : Int)) = true := by simp [hab]
          have HN := hide (HE.out hab)
          clear hab HC HE
          go_wp2
          go_quiet (fail)
          go_wp2
          exact ⟨⟨k + 1, by go_num, by omega, by omega, HN.out, q + nq, by simp⟩, by simp [intOf]; omega⟩
        · have hne : ((a : Int) == (b : Int)) = false := by simp; omega
          have HR := hide (HC.out hab)
          clear HC HE
          have j1 : ((k : Int) == (x.length : Int)) = false := by simp; omega
          have j2 : ((k : Int) == (y.length : Int)) = false := by simp; omega
          by_cases hsw : 238 ≤ a ∧ 238 ≤ b ∧ (240 ≤ a ∧ b < 240 ∨ a < 240 ∧ 240 ≤ b)
          · have HR2 : Hid (cmpB x y = cmpI (b : Int) (a : Int)) := by
              show _ = _
              rw [HR.out, if_pos hsw]
              unfold cmpI
              by_cases c : b < a
              · rw [if_pos c, if_pos (by omega)]
              · rw [if_neg c, if_neg (by omega), if_pos (by omega)]
            clear HR
            rcases hsw with ⟨s1, s2, s3⟩
            rcases s3 with ⟨s3, s4⟩ | ⟨s3, s4⟩
            · have hba : b < a := by omega
              have m1 : (238 : Int) ≤ (a : Int) := by omega
              have m2 : (238 : Int) ≤ (b : Int) := by omega
              have s3' : decide ((240 : Int) ≤ (a : Int)) = true := by simp; omega
              have s4' : decide ((240 : Int) ≤ (b : Int)) = false := by simp; omega
              go_wp2
              go_quiet (fail)
              go_wp2
              go_quiet (fail)
              go_wp2_with fail
              refine (compareB_any _ _ _).mono ?_
              rintro e w' ⟨rfl, rfl⟩
              go_wp2
              go_ret
              exact ⟨ret_int (by rw [HR2.out]), _, rfl⟩
            · have hba : ¬ b < a := by omega
              have hba2 : a < b := by omega
              have m1 : (238 : Int) ≤ (a : Int) := by omega
              have m2 : (238 : Int) ≤ (b : Int) := by omega
              have s3' : decide ((240 : Int) ≤ (a : Int)) = false := by simp; omega
              have s4' : decide ((240 : Int) ≤ (b : Int)) = true := by simp; omega
              go_wp2
              go_quiet (fail)
              go_wp2
              go_quiet (fail)
              go_wp2_with fail
              refine (compareB_any _ _ _).mono ?_
              rintro e w' ⟨rfl, rfl⟩
              go_wp2
              go_ret
              exact ⟨ret_int (by rw [HR2.out]), _, rfl⟩
          · have HR2 : Hid (cmpB x y = cmpI (a : Int) (b : Int)) := by
              show _ = _
              rw [HR.out, if_neg hsw]
              unfold cmpI
              by_cases c : a < b
              · rw [if_pos c, if_pos (by omega)]
              · rw [if_neg c, if_neg (by omega), if_pos (by omega)]
            clear HR
            by_cases hmin : 238 ≤ a ∧ 238 ≤ b
            · by_cases ha : 240 ≤ a
              · have hb : 240 ≤ b := by omega
                have m1 : (238 : Int) ≤ (a : Int) := by omega
                have m2 : (238 : Int) ≤ (b : Int) := by omega
                have s3' : decide ((240 : Int) ≤ (a : Int)) = true := by simp; omega
                have s4' : decide ((240 : Int) ≤ (b : Int)) = true := by simp; omega
                clear hsw hmin
                by_cases hba : b < a
                · skip
                  go_wp2
                  go_quiet (fail)
                  go_wp2
                  go_quiet (fail)
                  go_wp2_with fail
                  refine (compareB_any _ _ _).mono ?_
                  rintro e w' ⟨rfl, rfl⟩
                  go_wp2
                  go_ret
                  exact ⟨ret_int (by rw [HR2.out]), _, rfl⟩
                · have hba2 : a < b := by omega
                  go_wp2
                  go_quiet (fail)
                  go_wp2
                  go_quiet (fail)
                  go_wp2_with fail
                  refine (compareB_any _ _ _).mono ?_
                  rintro e w' ⟨rfl, rfl⟩
                  go_wp2
                  go_ret
                  exact ⟨ret_int (by rw [HR2.out]), _, rfl⟩
              · have hb : ¬ 240 ≤ b := by omega
                have m1 : (238 : Int) ≤ (a : Int) := by omega
                have m2 : (238 : Int) ≤ (b : Int) := by omega
                have s3' : decide ((240 : Int) ≤ (a : Int)) = false := by simp; omega
                have s4' : decide ((240 : Int) ≤ (b : Int)) = false := by simp; omega
                clear hsw hmin
                by_cases hba : b < a
                · skip
                  go_wp2
                  go_quiet (fail)
                  go_wp2
                  go_quiet (fail)
                  go_wp2_with fail
                  refine (compareB_any _ _ _).mono ?_
                  rintro e w' ⟨rfl, rfl⟩
                  go_wp2
                  go_ret
                  exact ⟨ret_int (by rw [HR2.out]), _, rfl⟩
                · have hba2 : a < b := by omega
                  go_wp2
                  go_quiet (fail)
                  go_wp2
                  go_quiet (fail)
                  go_wp2_with fail
                  refine (compareB_any _ _ _).mono ?_
                  rintro e w' ⟨rfl, rfl⟩
                  go_wp2
                  go_ret
                  exact ⟨ret_int (by rw [HR2.out]), _, rfl⟩
            · by_cases hba : b < a
              · have m1 : decide ((238 : Int) ≤ (b : Int)) = false := by simp; omega
                clear hsw hmin
                go_wp2
                go_quiet (fail)
                go_wp2
                go_quiet (fail)
                go_wp2_with fail
                refine (compareB_any _ _ _).mono ?_
                rintro e w' ⟨rfl, rfl⟩
                go_wp2
                go_ret
                exact ⟨ret_int (by rw [HR2.out]), _, rfl⟩
              · have hba2 : a < b := by omega
                have m1 : decide ((238 : Int) ≤ (a : Int)) = false := by simp; omega
                clear hsw hmin
                go_wp2
                go_quiet (fail)
                go_wp2
                go_quiet (fail)
                go_wp2_with fail
                refine (compareB_any _ _ _).mono ?_
                rintro e w' ⟨rfl, rfl⟩
                go_wp2
                go_ret
                exact ⟨ret_int (by rw [HR2.out]), _, rfl⟩
      · have HR : Hid (cmpB x y = cmpI (x.length : Int) (y.length : Int)) := cmpB_end hkx hky HK.out (by omega)
        have i1 : (k : Int) < (x.length : Int) := by omega
        have i2 : decide ((k : Int) < (y.length : Int)) = false := by simp; omega
        have j1 : ((k : Int) == (x.length : Int)) = false := by simp; omega
        have j2 : ((k : Int) == (y.length : Int)) = true := by simp; omega
        go_wp2
        go_quiet (fail)
        go_wp2_with fail
        refine (compareI_any _ _ _).mono ?_
        rintro e w' ⟨rfl, rfl⟩
        go_wp2
        go_ret
        exact ⟨ret_int (by rw [HR.out]), _, rfl⟩
    · have HR : Hid (cmpB x y = cmpI (x.length : Int) (y.length : Int)) := cmpB_end hkx hky HK.out (by omega)
      have i1 : decide ((k : Int) < (x.length : Int)) = false := by simp; omega
      have j1 : ((k : Int) == (x.length : Int)) = true := by simp; omega
      go_wp2
      go_quiet (fail)
      go_wp2_with fail
      refine (compareI_any _ _ _).mono ?_
      rintro e w' ⟨rfl, rfl⟩
      go_wp2
      go_ret
      exact ⟨ret_int (by rw [HR.out]), _, rfl⟩

end Go.Proofs.Qxb6616638aGreatFmt
