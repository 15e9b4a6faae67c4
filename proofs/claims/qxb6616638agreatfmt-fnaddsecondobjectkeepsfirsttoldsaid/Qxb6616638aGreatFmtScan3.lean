/-
  THE WALKS of the law's scanner: zzNumberEnd, zzScalarEnd.
-/
import Derived.Test.Qxb6616638aGreatFmtScan2
namespace Go.Proofs.Qxb6616638aGreatFmt
open Go.RowKit
open Plain
set_option linter.unusedVariables false
set_option maxRecDepth 100000

set_option maxHeartbeats 2000000 in
theorem number_minus (B n cap i : Nat) (bs : Nat → Nat) (w : World) (hn : n ≤ 16383) (hi : i < n) (ht : Txt w B n bs) (h45 : bs i = 45) :
    Calls Tryz.prog 38 #[.slice (some ⟨B, 0, none⟩) n cap, .int .i64 i] w (EndGives w (fun e => i < e ∧ e ≤ n)) := by
  have HT : Hid (Txt w B n bs) := ht
  have hc := ht.at i hi
  rw [h45] at hc
  clear ht h45
  have hii : (i : Int) < (n : Int) := by omega
  have hi0 : (0 : Int) ≤ (i : Int) := by omega
  by_cases h1 : i + 1 < n
  · have hc1 := HT.out.at (i + 1) h1
    have h1i : (i : Int) + 1 < (n : Int) := by omega
    by_cases hy : 48 ≤ bs (i + 1) ∧ bs (i + 1) ≤ 57
    · have HY := hide hy
      generalize hyy : bs (i + 1) = y at hc1 hy
      have y1 : (48 : Int) ≤ (y : Int) := by omega
      have y2 : (y : Int) ≤ 57 := by omega
      clear hyy hy
      by_cases y0 : y = 48
      · subst y0
        go_enter Tryz.func38, Tryz.ntmps38
        go_wp2
        go_ret
        exact ⟨.inl rfl, 0, rfl⟩
      · have y0' : ((y : Int) == 48) = false := by simp; omega
        clear y0
        go_enter Tryz.func38, Tryz.ntmps38
        go_wp2
        go_loop [5, 6] (fun t u => ∃ j d : Nat, t = .int .i64 j ∧ u = .int .i64 d ∧ (i + 1) ≤ j ∧ j ≤ n ∧ d ≤ j) (fun t _ => n - (intOf t).toNat)
        case atStart => exact ⟨(i + 1), 0, by go_num, rfl, Nat.le_refl _, by omega, by omega⟩
        case round =>
          obtain ⟨j, d, rfl, rfl, hj, hjn, hd⟩ := hrel
          by_cases hlt : j < n
          · have hcj := HT.out.at j hlt
            have hji : (j : Int) < (n : Int) := by omega
            have hj0 : (0 : Int) ≤ (j : Int) := by omega
            have hfirst : j = (i + 1) → (48 ≤ bs j ∧ bs j ≤ 57) := fun h => by rw [h]; exact HY.out
            have HF := hide hfirst
            clear hfirst
            generalize hz : bs j = z at hcj
            have HZ := hide hz
            clear hz
            by_cases hdig : 48 ≤ z ∧ z ≤ 57
            · have z1 : (48 : Int) ≤ (z : Int) := by omega
              have z2 : (z : Int) ≤ 57 := by omega
              clear hdig
              go_wp2
              exact ⟨⟨j + 1, d + 1, by go_num, by go_num, by omega, by omega, by omega⟩, by simp [intOf]; omega⟩
            · have hne : j ≠ (i + 1) := fun h => hdig (by rw [← HZ.out]; exact HF.out h)
              have hgt : (i + 1) < j := by omega
              clear hne
              rcases (show z < 48 ∨ 57 < z by omega) with z1 | z1
              · have zi : ¬ (48 : Int) ≤ (z : Int) := by omega
                clear hdig
                go_wp2
                all_goals
                  go_ret
                  first
                    | exact ⟨.inl rfl, 0, rfl⟩
                    | exact ⟨.inr ⟨j, rfl, by omega, by omega⟩, 0, rfl⟩
              · have zi : ¬ (z : Int) ≤ 57 := by omega
                have zk : (48 : Int) ≤ (z : Int) := by omega
                clear hdig
                go_wp2
                all_goals
                  go_ret
                  first
                    | exact ⟨.inl rfl, 0, rfl⟩
                    | exact ⟨.inr ⟨j, rfl, by omega, by omega⟩, 0, rfl⟩
          · have hd2 : decide ((j : Int) < (n : Int)) = false := by simp; omega
            go_wp2
            all_goals
              go_ret
              first
                | exact ⟨.inl rfl, 0, rfl⟩
                | exact ⟨.inr ⟨j, rfl, by omega, by omega⟩, 0, rfl⟩

    · rcases (show bs (i + 1) < 48 ∨ 57 < bs (i + 1) by omega) with hz | hz
      · generalize bs (i + 1) = y at hc1 hz
        have y1 : (y : Int) < 48 := by omega
        clear hy
        go_enter Tryz.func38, Tryz.ntmps38
        go_wp2
        go_ret
        exact ⟨.inl rfl, 0, rfl⟩
      · generalize bs (i + 1) = y at hc1 hz
        have y1 : ¬ (y : Int) < 48 := by omega
        have y2 : 57 < (y : Int) := by omega
        clear hy
        go_enter Tryz.func38, Tryz.ntmps38
        go_wp2
        go_ret
        exact ⟨.inl rfl, 0, rfl⟩
  · have h1i : (n : Int) ≤ (i : Int) + 1 := by omega
    go_enter Tryz.func38, Tryz.ntmps38
    go_wp2
    go_ret
    exact ⟨.inl rfl, 0, rfl⟩

set_option maxHeartbeats 2000000 in
theorem number_plain (B n cap i : Nat) (bs : Nat → Nat) (w : World) (hn : n ≤ 16383) (hi : i < n) (ht : Txt w B n bs) (h45 : bs i ≠ 45) :
    Calls Tryz.prog 38 #[.slice (some ⟨B, 0, none⟩) n cap, .int .i64 i] w (EndGives w (fun e => i < e ∧ e ≤ n)) := by
  have HT : Hid (Txt w B n bs) := ht
  have hc := ht.at i hi
  have hii : (i : Int) < (n : Int) := by omega
  have hi0 : (0 : Int) ≤ (i : Int) := by omega
  by_cases hy : 48 ≤ bs i ∧ bs i ≤ 57
  · have HY := hide hy
    generalize hyy : bs i = y at hc hy h45
    have y1 : (48 : Int) ≤ (y : Int) := by omega
    have y2 : (y : Int) ≤ 57 := by omega
    have y45 : ((y : Int) == 45) = false := by simp; omega
    clear hyy hy h45 ht
    by_cases y0 : y = 48
    · subst y0
      by_cases h1 : i + 1 < n
      · have hc1 := HT.out.at (i + 1) h1
        have h1i : (i : Int) + 1 < (n : Int) := by omega
        generalize bs (i + 1) = z at hc1
        go_enter Tryz.func38, Tryz.ntmps38
        go_wp2
        all_goals
          go_ret
          first
            | exact ⟨.inl rfl, 0, rfl⟩
            | exact ⟨.inr ⟨i + 1, ret_int (by omega), by omega, by omega⟩, 0, rfl⟩
      · have h1i : decide ((i : Int) + 1 < (n : Int)) = false := by simp; omega
        go_enter Tryz.func38, Tryz.ntmps38
        go_wp2
        all_goals
          go_ret
          first
            | exact ⟨.inl rfl, 0, rfl⟩
            | exact ⟨.inr ⟨i + 1, ret_int (by omega), by omega, by omega⟩, 0, rfl⟩
    · have y0' : ((y : Int) == 48) = false := by simp; omega
      clear y0
      go_enter Tryz.func38, Tryz.ntmps38
      go_wp2
      go_loop [5, 6] (fun t u => ∃ j d : Nat, t = .int .i64 j ∧ u = .int .i64 d ∧ i ≤ j ∧ j ≤ n ∧ d ≤ j) (fun t _ => n - (intOf t).toNat)
      case atStart => exact ⟨i, 0, by go_num, rfl, Nat.le_refl _, by omega, by omega⟩
      case round =>
        obtain ⟨j, d, rfl, rfl, hj, hjn, hd⟩ := hrel
        by_cases hlt : j < n
        · have hcj := HT.out.at j hlt
          have hji : (j : Int) < (n : Int) := by omega
          have hj0 : (0 : Int) ≤ (j : Int) := by omega
          have hfirst : j = i → (48 ≤ bs j ∧ bs j ≤ 57) := fun h => by rw [h]; exact HY.out
          have HF := hide hfirst
          clear hfirst
          generalize hz : bs j = z at hcj
          have HZ := hide hz
          clear hz
          by_cases hdig : 48 ≤ z ∧ z ≤ 57
          · have z1 : (48 : Int) ≤ (z : Int) := by omega
            have z2 : (z : Int) ≤ 57 := by omega
            clear hdig
            go_wp2
            exact ⟨⟨j + 1, d + 1, by go_num, by go_num, by omega, by omega, by omega⟩, by simp [intOf]; omega⟩
          · have hne : j ≠ i := fun h => hdig (by rw [← HZ.out]; exact HF.out h)
            have hgt : i < j := by omega
            clear hne
            rcases (show z < 48 ∨ 57 < z by omega) with z1 | z1
            · have zi : ¬ (48 : Int) ≤ (z : Int) := by omega
              clear hdig
              go_wp2
              all_goals
                go_ret
                first
                  | exact ⟨.inl rfl, 0, rfl⟩
                  | exact ⟨.inr ⟨j, rfl, by omega, by omega⟩, 0, rfl⟩
            · have zi : ¬ (z : Int) ≤ 57 := by omega
              have zk : (48 : Int) ≤ (z : Int) := by omega
              clear hdig
              go_wp2
              all_goals
                go_ret
                first
                  | exact ⟨.inl rfl, 0, rfl⟩
                  | exact ⟨.inr ⟨j, rfl, by omega, by omega⟩, 0, rfl⟩
        · have hd2 : decide ((j : Int) < (n : Int)) = false := by simp; omega
          go_wp2
          all_goals
            go_ret
            first
              | exact ⟨.inl rfl, 0, rfl⟩
              | exact ⟨.inr ⟨j, rfl, by omega, by omega⟩, 0, rfl⟩

  · have HH := hide h45
    rcases (show bs i < 48 ∨ 57 < bs i by omega) with hz | hz
    · generalize bs i = y at hc hz h45
      have y45 : ((y : Int) == 45) = false := by simp; omega
      have y1 : (y : Int) < 48 := by omega
      clear hy ht h45
      go_enter Tryz.func38, Tryz.ntmps38
      go_wp2
      go_ret
      exact ⟨.inl rfl, 0, rfl⟩
    · generalize bs i = y at hc hz h45
      have y45 : ((y : Int) == 45) = false := by simp; omega
      have y1 : ¬ (y : Int) < 48 := by omega
      have y2 : 57 < (y : Int) := by omega
      clear hy ht h45
      go_enter Tryz.func38, Tryz.ntmps38
      go_wp2
      go_ret
      exact ⟨.inl rfl, 0, rfl⟩

theorem number_any (B n cap i : Nat) (bs : Nat → Nat) (w : World) (hn : n ≤ 16383) (hi : i < n) (ht : Txt w B n bs) :
    Calls Tryz.prog 38 #[.slice (some ⟨B, 0, none⟩) n cap, .int .i64 i] w (EndGives w (fun e => i < e ∧ e ≤ n)) := by
  by_cases h : bs i = 45
  · exact number_minus B n cap i bs w hn hi ht h
  · exact number_plain B n cap i bs w hn hi ht h

end Go.Proofs.Qxb6616638aGreatFmt
