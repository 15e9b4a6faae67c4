/-
  THE WALK of zzSortByUnits.
-/
import Derived.Test.Qxb6616638aGreatFmtRow
import Derived.Test.Qxb6616638aGreatFmtUnits
import Derived.Test.Qxb6616638aGreatFmtOrdP
import Derived.Deep.Cut
import Derived.Deep.QuietTactic
import Derived.BigQuiet
namespace Go.Proofs.Qxb6616638aGreatFmt
open Go.RowKit
open Plain
set_option linter.unusedVariables false
set_option maxRecDepth 100000

/-- A slice of code units, its block above U. -/
def UAt (w : World) (U : Nat) (v : Value) (xs : List Nat) : Prop :=
  ∃ a c g, v = .slice a xs.length c ∧ (0 < xs.length → a = some ⟨g, 0, none⟩ ∧ U < g ∧ g < w.heap.size) ∧ ∀ i, i < xs.length → w.cell? ⟨g, i, none⟩ = some (.int .u16 (xs.getD i 0 : Nat))

theorem UAt.below {w w' : World} {U : Nat} {v : Value} {xs : List Nat} (h : UAt w U v xs) (hb : Below w.heap.size w w') : UAt w' U v xs := by
  obtain ⟨a, c, g, rfl, h1, h2⟩ := h
  exact ⟨a, c, g, rfl, fun hp => ⟨(h1 hp).1, (h1 hp).2.1, Nat.lt_of_lt_of_le (h1 hp).2.2 hb.size⟩, fun i hi => (hb.cell (p := ⟨g, i, none⟩) (h1 (by omega)).2.2).trans (h2 i hi)⟩

theorem UAt.aside {w : World} {U A o : Nat} {v : Value} {xs : List Nat} (h : UAt w U v xs) (hA : A ≤ U) (x : Value) : UAt (w.setCell ⟨A, o, none⟩ x) U v xs := by
  obtain ⟨a, c, g, rfl, h1, h2⟩ := h
  refine ⟨a, c, g, rfl, fun hp => ⟨(h1 hp).1, (h1 hp).2.1, by simpa using (h1 hp).2.2⟩, fun i hi => ?_⟩
  rw [World.cell?_setCell_other _ _ _ _ (fun e => by injection e with e1 _ _; have := (h1 (by omega)).2.1; omega)]
  exact h2 i hi

theorem UAt.of {w : World} {U base : Nat} {v : Value} {xs : List Nat} (h : w.ownsRow base 93 1 v xs.length (ints16 xs)) (hU : U < base) : UAt w U v xs := by
  rcases h.2 with ⟨rfl, e⟩ | ⟨g, cap, cur, rfl, hb, hg, _⟩
  · exact ⟨none, 0, 0, by rw [e], fun hp => by omega, fun i hi => by omega⟩
  · refine ⟨_, cap, g, rfl, fun _ => ⟨rfl, by omega, (Array.getElem?_eq_some_iff.1 hg).1⟩, fun i hi => ?_⟩
    refine row_cell h ?_
    simp [ints16, List.getD_eq_getElem?_getD, List.getElem?_eq_getElem hi]

theorem belowN {B : Nat} {w w' : World} (h : Below B w w') (q : Nat) : Below B w (w'.drewN q) := ⟨h.os, h.tape, h.output, h.size, h.block⟩

def SortGives (us : Nat → List Nat) (m : Nat) (w : World) (e : Ending) (w' : World) : Prop :=
  ∃ g P d, e = .returned (.tuple #[.slice (some ⟨g, 0, none⟩) m m, .bool d]) ∧ Row w' g m (fun i => .int .i64 (P.getD i 0 : Nat)) ∧ P.Perm (List.range m) ∧ SortedP us P ∧ (d = true → StrictP us P) ∧
    (d = false → ∃ a b, a < m ∧ b < m ∧ a ≠ b ∧ cmpU (us a) (us b) = 0) ∧ Below w.heap.size w w'

namespace Plain
/-- The list in the making: a place for the new one at j. -/
def mid (A : List Nat) (j v : Nat) (R : List Nat) : List Nat := A.take j ++ v :: (A.drop j ++ R)
theorem mid_lo {A : List Nat} {j v : Nat} {R : List Nat} {k : Nat} (hk : k < j) (hj : j ≤ A.length) : (mid A j v R).getD k 0 = A.getD k 0 := by
  unfold mid
  rw [List.getD_eq_getElem?_getD, List.getElem?_append_left (by simp; omega), List.getElem?_take_of_lt hk, List.getD_eq_getElem?_getD]
theorem mid_at {A : List Nat} {j v : Nat} {R : List Nat} (hj : j ≤ A.length) : (mid A j v R).getD j 0 = v := by
  unfold mid
  rw [List.getD_eq_getElem?_getD, List.getElem?_append_right (by simp; omega)]
  simp [Nat.min_eq_left hj]
theorem mid_other {A : List Nat} {j v v' : Nat} {R : List Nat} {x : Nat} (hj : j ≤ A.length) (hx : x ≠ j) : (mid A j v R).getD x 0 = (mid A j v' R).getD x 0 := by
  rcases Nat.lt_or_ge x j with h | h
  · rw [mid_lo h hj, mid_lo h hj]
  · unfold mid
    have hl : (A.take j).length = j := by simp; omega
    rw [List.getD_eq_getElem?_getD, List.getElem?_append_right (by omega), List.getD_eq_getElem?_getD, List.getElem?_append_right (by omega), hl]
    obtain ⟨d, hd⟩ : ∃ d, x - j = d + 1 := ⟨x - j - 1, by omega⟩
    rw [hd]
    simp
theorem mid_shift {A : List Nat} {k : Nat} {R : List Nat} (hk : k < A.length) : mid A (k + 1) (A.getD k 0) R = mid A k (A.getD k 0) R := by
  unfold mid
  have e : A.getD k 0 = A[k] := by simp [List.getD_eq_getElem?_getD, hk]
  have e1 : A.take (k + 1) = A.take k ++ [A[k]] := by rw [List.take_add_one, List.getElem?_eq_getElem hk]; rfl
  have e2 : A.drop k = A[k] :: A.drop (k + 1) := List.drop_eq_getElem_cons hk
  rw [e, e1, e2]
  simp only [List.append_assoc, List.cons_append, List.nil_append]
theorem mid_end (A : List Nat) (v : Nat) (R : List Nat) : mid A A.length v R = A ++ v :: R := by simp [mid]
theorem mid_split (A : List Nat) (j v : Nat) (R : List Nat) : mid A j v R = (A.take j ++ v :: A.drop j) ++ R := by simp [mid]
end Plain

set_option maxHeartbeats 4000000 in
theorem sortByUnits_any (B n m h : Nat) (bs : Nat → Nat) (p q c : Nat → Nat) (ls : Nat → List Nat) (us : Nat → List Nat) (w : World) (hn : n ≤ 16383) (hm : m ≤ 16383) (hx : Txt w B n bs) (hB : B < w.heap.size)
    (hrow : Row w h m (fun i => .slice (some ⟨B, p i, none⟩) (q i - p i) (c i))) (hC : ∀ i, i < m → Chars bs (p i) (ls i) (q i) ∧ q i ≤ n) (hus : ∀ i, i < m → us i = units bs (p i) (ls i)) :
    Calls Tryz.prog 13 #[.slice (some ⟨h, 0, none⟩) m m] w (SortGives us m w) := by
  obtain ⟨i74, hi74, hz74, hs74, hb74⟩ := info74
  obtain ⟨W1, hmk, hrow1, hbel1⟩ := make_row w 73 74 i74 (.slice none 0 0) Tryz.underlying73 hi74 hz74 hs74 (by omega) rfl m (by omega)
  have HX := hide hx
  have HR := hide hrow
  have HC := hide hC
  have HR1 := hide hrow1
  have HB1 := hide hbel1
  have hh := hrow.lt
  have HUS := hide hus
  clear hus hx hrow hC hrow1 hbel1 hi74 hz74 hs74 hb74
  go_enter Tryz.func13, Tryz.ntmps13
  go_wp2
  go_loopw [16, 5] (fun t v5 wr => ∃ (i : Nat) (vs : Nat → Value), t = .int .i64 i ∧ i ≤ m ∧ Row wr w.heap.size m (fun x => if x < i then vs x else .slice none 0 0) ∧ (∀ x, x < i → UAt wr w.heap.size (vs x) (us x)) ∧ Below w.heap.size w wr) (fun t _ _ => 20000 - (intOf t).toNat)
  case atStart => exact ⟨0, fun _ => .slice none 0 0, rfl, Nat.zero_le _, by simpa using HR1.out, fun x hx => absurd hx (Nat.not_lt_zero _), HB1.out⟩
  case round =>
    rename World => wa
    obtain ⟨i, vs, rfl, hi, hr, hu, hb⟩ := hrel
    have HRr := hide hr
    have HU := hide hu
    have HB := hide hb
    have hrl := hr.lt
    clear hr hu hb
    by_cases hlt : i < m
    · have hli : (i : Int) < (m : Int) := by omega
      have hli0 : (0 : Int) ≤ (i : Int) := by omega
      have cn := (HB.out.cell (p := ⟨h, i, none⟩) hh).trans (HR.out.cell i hlt)
      go_wp2_with fail
      refine (units_any B (p i) (q i) (c i) bs (ls i) wa (by have := (HC.out i hlt).2; omega) (HC.out i hlt).1 (fun k hk => ?_) (by omega) (fun k h1 h2 => HX.out.lt k (by have := (HC.out i hlt).2; omega))).mono ?_
      · exact (HB.out.cell (p := ⟨B, p i + k, none⟩) hB).trans (HX.out.at _ (by have := (HC.out i hlt).2; omega))
      rintro e w1 ⟨⟨v, rfl, hown⟩, hb1⟩
      have HW1 := hide hb1
      rw [← HUS.out i hlt] at hown
      have HUN := hide (UAt.of hown hrl)
      obtain ⟨a1, l1, c1, rfl⟩ := hown.isSlice
      have hr1 := HRr.out.below hb1 hrl
      have r0 := hr1.cell i hlt
      have r1 := hr1.free i hlt
      simp only [Nat.lt_irrefl, if_false] at r0
      have HR2 := hide hr1
      clear hr1 hown hb1 cn
      go_wp2
      refine ⟨⟨i + 1, upd vs i (.slice a1 l1 c1), by go_num, by omega, ?_, ?_, ?_⟩, by simp [intOf]; omega⟩
      · refine (HR2.out.set i hlt (.slice a1 l1 c1)).congr (fun x hx => ?_)
        by_cases e : x = i
        · subst e
          rw [upd_same, if_pos (by omega), upd_same]
        · rw [upd_other _ _ e, upd_other _ _ e]
          by_cases e2 : x < i
          · simp [e2, show x < i + 1 by omega]
          · simp [e2, show ¬ x < i + 1 by omega]
      · intro x hx
        by_cases e : x = i
        · subst e
          rw [upd_same]
          exact HUN.out.aside (Nat.le_refl _) _
        · rw [upd_other _ _ e]
          exact ((HU.out x (by omega)).below HW1.out).aside (Nat.le_refl _) _
      · exact (HB.out.trans (HW1.out.mono (by omega))).setCell (p := ⟨w.heap.size, i, none⟩) (Nat.le_refl _) _
    · have hli : ¬ (i : Int) < (m : Int) := by omega
      have em : m = i := by omega
      subst em
      obtain ⟨i3, hi3, hz3, hs3, hb3⟩ := info3
      obtain ⟨W2, hmk2, hrow2, hbel2⟩ := make_row wa 49 3 i3 (.int .i64 0) Tryz.underlying49 hi3 hz3 hs3 (by omega) rfl m (by omega)
      have HR3 := hide hrow2
      have HB3 := hide hbel2
      clear hi3 hz3 hs3 hb3 hrow2 hbel2
      have HUU : Hid (∀ x, x < m → UAt wa w.heap.size (vs x) (us x) ∧ (us x).length ≤ 40000) := by
        intro x hx
        refine ⟨HU.out x hx, ?_⟩
        have h1 := units_length _ _ _ _ (HC.out x hx).1
        have h2 := (HC.out x hx).2
        rw [HUS.out x hx]
        omega
      clear HU HC HX HR HUS
      go_wp2
      go_loopw [33, 7, 8] (fun t v7 v8 wz => ∃ (i : Nat) (A R : List Nat), t = .int .i64 i ∧ A.length = i ∧ i + R.length = m ∧ A.Perm (List.range i) ∧ SortedP us A ∧ Row wz wa.heap.size m (fun x => .int .i64 ((A ++ R).getD x 0 : Nat)) ∧ Below wa.heap.size wa wz) (fun t _ _ _ => 20000 - (intOf t).toNat)
      case atStart =>
        refine ⟨0, [], List.replicate m 0, rfl, rfl, by simp, by simp, List.Pairwise.nil, HR3.out.congr (fun x hx => ?_), HB3.out⟩
        simp [List.getD_eq_getElem?_getD, hx]
      case round =>
        obtain ⟨i, A, R, rfl, hA, hR, hperm, hsort, hr, hb⟩ := hrel
        have HRz := hide hr
        have HBz := hide hb
        have HP := hide hperm
        have HS := hide hsort
        clear hr hb hperm hsort
        by_cases hlt2 : i < m
        · have hli2 : (i : Int) < (m : Int) := by omega
          obtain ⟨r0, R', rfl⟩ : ∃ r0 R', R = r0 :: R' := by
            cases R with
            | nil => simp at hR; omega
            | cons a b => exact ⟨a, b, rfl⟩
          have hR' : i + 1 + R'.length = m := by simp at hR; omega
          clear hR
          have hAm : ∀ x ∈ A, x < i := fun x hx => List.mem_range.1 (HP.out.mem_iff.1 hx)
          have HAM := hide hAm
          clear hAm
          have HRU := hide (HRr.out.below HBz.out hrl)
          have HUI : Hid (∀ x, x < m → ∃ ax cx gx, vs x = .slice ax (us x).length cx ∧ (0 < (us x).length → ax = some ⟨gx, 0, none⟩ ∧ gx < wa.heap.size) ∧ ∀ i, i < (us x).length → wa.cell? ⟨gx, i, none⟩ = some (.int .u16 ((us x).getD i 0 : Nat))) := by
            intro x hx
            obtain ⟨ax, cx, gx, e1, e2, e3⟩ := (HUU.out x hx).1
            exact ⟨ax, cx, gx, e1, fun hp => ⟨(e2 hp).1, (e2 hp).2.2⟩, e3⟩
          go_wp2
          go_loopw [8] (fun t wy => ∃ (j junk : Nat), t = .int .i64 j ∧ j ≤ i ∧ (∀ x ∈ A.drop j, 0 < cmpU (us x) (us i)) ∧ Row wy wa.heap.size m (fun x => .int .i64 ((mid A j junk R').getD x 0 : Nat)) ∧ Below wa.heap.size wa wy) (fun t _ => (intOf t).toNat)
          case atStart =>
            refine ⟨i, r0, rfl, Nat.le_refl _, ?_, ?_, HBz.out⟩
            · rw [← hA]; simp
            · rw [← hA, mid_end]; exact HRz.out
          case round =>
            rename World => wy
            obtain ⟨j, junk, rfl, hj, hgt, hr, hb⟩ := hrel
            have HGT := hide hgt
            have HRy := hide hr
            have HBy := hide hb
            clear hgt hr hb
            have hji : j < m := by omega
            have y0 := HRy.out.cell j hji
            have y1 := HRy.out.free j hji
            have HEND : Hid (∀ (qq : Nat) x, (∀ k, k + 1 = j → k < A.length → cmpU (us (A.getD k 0)) (us i) ≤ 0) → x = .int .i64 (i : Int) → ∃ (i' : Nat) (A2 R2 : List Nat), Value.int .i64 ((i : Int) + 1) = .int .i64 (i' : Int) ∧ A2.length = i' ∧ i' + R2.length = m ∧ A2.Perm (List.range i') ∧ SortedP us A2 ∧ Row ((wy.drewN qq).setCell ⟨wa.heap.size, j, none⟩ x) wa.heap.size m (fun x => .int .i64 ((A2 ++ R2).getD x 0 : Nat)) ∧ Below wa.heap.size wa ((wy.drewN qq).setCell ⟨wa.heap.size, j, none⟩ x)) := by
              intro qq x h1 h2
              subst h2
              refine ⟨i + 1, A.take j ++ i :: A.drop j, R', by go_num, ?_, hR', ?_, HS.out.insert us HGT.out h1 (by omega), ?_, (belowN HBy.out qq).setCell (p := ⟨wa.heap.size, j, none⟩) (Nat.le_refl _) _⟩
              · simp; omega
              · have h3 : (A.take j ++ i :: A.drop j).Perm (i :: (A.take j ++ A.drop j)) := List.perm_middle
                rw [List.take_append_drop] at h3
                refine h3.trans ((List.Perm.cons i HP.out).trans ?_)
                rw [List.range_succ]
                exact (List.perm_append_singleton i (List.range i)).symm
              · refine ((HRy.out.drewN qq).set j hji (.int .i64 (i : Int))).congr (fun x hx => ?_)
                rw [← mid_split]
                by_cases e : x = j
                · subst e
                  rw [upd_same, mid_at (by omega)]
                · rw [upd_other _ _ e, mid_other (v := junk) (v' := i) (by omega) e]
            by_cases hj0 : j = 0
            · subst hj0
              have hd : decide ((0 : Int) < ((0 : Nat) : Int)) = false := by simp
              go_wp2
              go_quiet (fail)
              go_wp2
              exact ⟨HEND.out nq _ (fun k hk _ => by omega) rfl, by simp [intOf]; omega⟩
            · obtain ⟨k, rfl⟩ : ∃ k, j = k + 1 := ⟨j - 1, by omega⟩
              have hd : (0 : Int) < ((k + 1 : Nat) : Int) := by omega
              have yk := HRy.out.cell k (by omega)
              rw [mid_lo (by omega) (by omega)] at yk
              have hka : A.getD k 0 < i := HAM.out _ (by simp [List.getD_eq_getElem?_getD, show k < A.length by omega])
              have hkl : k < A.length := by omega
              have HSH := hide (mid_shift (R := R') hkl)
              have HDR : Hid (∀ x ∈ A.drop k, x = A.getD k 0 ∨ x ∈ A.drop (k + 1)) := by
                intro x hx
                rw [List.drop_eq_getElem_cons hkl] at hx
                rcases List.mem_cons.1 hx with e | e
                · left; rw [e]; simp [List.getD_eq_getElem?_getD, hkl]
                · exact .inr e
              have HKE : Hid (cmpU (us (A.getD k 0)) (us i) ≤ 0 → ∀ k', k' + 1 = k + 1 → k' < A.length → cmpU (us (A.getD k' 0)) (us i) ≤ 0) := by
                intro h0 k' hk' _
                obtain rfl : k' = k := by omega
                exact h0
              generalize hak : A.getD k 0 = a at yk hka HSH HDR HKE
              obtain ⟨ax, cx, gx, hv1, hv2, hv3⟩ := HUI.out a (by omega)
              obtain ⟨ay, cy, gy, hw1, hw2, hw3⟩ := HUI.out i hlt2
              have ua := (HRr.out.below HBy.out hrl).cell a (by omega)
              have ui := (HRr.out.below HBy.out hrl).cell i hlt2
              simp only [show a < m by omega, hlt2, if_true] at ua ui
              rw [hv1] at ua
              rw [hw1] at ui
              have HCALL : Hid (∀ q, Calls Tryz.prog 24 #[.slice ax (us a).length cx, .slice ay (us i).length cy] (wy.drewN q) fun e w' => e = .returned (.int .i64 (cmpU (us a) (us i))) ∧ ∃ m, w' = (wy.drewN q).drewN m) := by
                intro q
                exact cmpUnits_any (us a) (us i) gx gy 0 0 cx cy (wy.drewN q) (HUU.out a (by omega)).2 (HUU.out i hlt2).2 ax ay (fun h => (hv2 h).1) (fun h => (hw2 h).1)
                  (fun t ht => by rw [Nat.zero_add]; exact (HBy.out.cell (p := ⟨gx, t, none⟩) (hv2 (by omega)).2).trans (hv3 t ht)) (fun t ht => by rw [Nat.zero_add]; exact (HBy.out.cell (p := ⟨gy, t, none⟩) (hw2 (by omega)).2).trans (hw3 t ht))
              generalize hlx : (us a).length = lx at ua HCALL
              generalize hly : (us i).length = ly at ui HCALL
              generalize hcc : cmpU (us a) (us i) = cc at HCALL HKE
              have HAK := hide hak
              have HCC := hide hcc
              clear hak hcc hlx hly hv1 hv2 hv3 hw1 hw2 hw3
              have b1 : (a : Int) < (m : Int) := by omega
              have b2 : (0 : Int) ≤ (a : Int) := by omega
              have b3 : (k : Int) < (m : Int) := by omega
              have b4 : (0 : Int) ≤ (i : Int) := by omega
              have b5 : ((k + 1 : Nat) : Int) < (m : Int) := by omega
              by_cases hc0 : 0 < cc
              · go_wp2
                go_quiet (first | (go_at_call 24; refine Calls.quiet_of (HCALL.out _)))
                go_wp2
                refine ⟨⟨k, a, rfl, by omega, ?_, ?_, ?_⟩, by simp [intOf]⟩
                · intro x hx
                  rcases HDR.out x hx with e | e
                  · rw [e, HCC.out]; exact hc0
                  · exact HGT.out x e
                · refine ((HRy.out.drewN nq).set (k + 1) hji (.int .i64 (a : Int))).congr (fun x hx => ?_)
                  rw [← HSH.out]
                  by_cases e : x = k + 1
                  · subst e
                    rw [upd_same, mid_at (by omega)]
                  · rw [upd_other _ _ e, mid_other (v := junk) (v' := a) (by omega) e]
                · exact (belowN HBy.out nq).setCell (p := ⟨wa.heap.size, k + 1, none⟩) (Nat.le_refl _) _
              · have hcd : ¬ (0 < cc) := hc0
                go_wp2
                go_quiet (first | (go_at_call 24; refine Calls.quiet_of (HCALL.out _)))
                go_wp2
                exact ⟨HEND.out nq _ (HKE.out (by omega)) rfl, by simp [intOf]; omega⟩
        · have hli2 : ¬ (i : Int) < (m : Int) := by omega
          have em : m = i := by omega
          subst em
          have hR0 : R = [] := by
            cases R with
            | nil => rfl
            | cons a b => simp at hR
          subst hR0
          rw [List.append_nil] at HRz
          rename World => wz
          have hAm : ∀ k, k < m → A.getD k 0 < m := fun k hk => List.mem_range.1 (HP.out.mem_iff.1 (by simp [List.getD_eq_getElem?_getD, show k < A.length by omega]))
          have HAM := hide hAm
          have hAn : ∀ k, k + 1 < m → A.getD k 0 ≠ A.getD (k + 1) 0 := fun k hk e => by
            have nd : A.Nodup := HP.out.nodup_iff.2 List.nodup_range
            simp only [List.getD_eq_getElem?_getD, List.getElem?_eq_getElem (show k < A.length by omega), List.getElem?_eq_getElem (show k + 1 < A.length by omega), Option.getD_some] at e
            exact List.pairwise_iff_getElem.1 nd k (k + 1) (by omega) (by omega) (by omega) e
          have HAN := hide hAn
          clear hAm hAn
          have HUI : Hid (∀ x, x < m → ∃ ax cx gx, vs x = .slice ax (us x).length cx ∧ (0 < (us x).length → ax = some ⟨gx, 0, none⟩ ∧ gx < wa.heap.size) ∧ ∀ i, i < (us x).length → wa.cell? ⟨gx, i, none⟩ = some (.int .u16 ((us x).getD i 0 : Nat))) := by
            intro x hx
            obtain ⟨ax, cx, gx, e1, e2, e3⟩ := (HUU.out x hx).1
            exact ⟨ax, cx, gx, e1, fun hp => ⟨(e2 hp).1, (e2 hp).2.2⟩, e3⟩
          go_wp2
          go_loopw [9, 10] (fun d t wx => ∃ (k : Nat) (db : Bool), t = .int .i64 ((k + 1 : Nat) : Int) ∧ d = .bool db ∧ (k + 1 ≤ m ∨ k = 0) ∧ (db = true → ∀ x, x < k → cmpU (us (A.getD x 0)) (us (A.getD (x + 1) 0)) ≠ 0) ∧ (db = false → ∃ a b, a < m ∧ b < m ∧ a ≠ b ∧ cmpU (us a) (us b) = 0) ∧ Row wx wa.heap.size m (fun x => .int .i64 (A.getD x 0 : Nat)) ∧ Below wa.heap.size wa wx) (fun _ t _ => 20000 - (intOf t).toNat)
          case atStart => exact ⟨0, true, rfl, rfl, .inr rfl, fun _ x hx => absurd hx (Nat.not_lt_zero _), fun h => Bool.noConfusion h, HRz.out, HBz.out⟩
          case round =>
            rename World => wx
            obtain ⟨k, db, rfl, rfl, hk, hd1, hd2, hrx, hbx⟩ := hrel
            have HRx := hide hrx
            have HBx := hide hbx
            clear hrx hbx HRz HBz
            have HK := hide hk
            have HD1 := hide hd1
            have HD2 := hide hd2
            clear hk hd1 hd2
            by_cases hk : k + 1 < m
            · have yk := HRx.out.cell k (by omega)
              have yk1 := HRx.out.cell (k + 1) hk
              have hka := HAM.out k (by omega)
              have hka1 := HAM.out (k + 1) (by omega)
              have HNE := hide (HAN.out k hk)
              have HST : Hid ((cmpU (us (A.getD k 0)) (us (A.getD (k + 1) 0)) ≠ 0) → db = true → ∀ x, x < k + 1 → cmpU (us (A.getD x 0)) (us (A.getD (x + 1) 0)) ≠ 0) := by
                intro h1 h2 x hx
                by_cases e : x = k
                · subst e; exact h1
                · exact HD1.out h2 x (by omega)
              generalize hak : A.getD k 0 = a at yk hka HNE HST
              generalize hak1 : A.getD (k + 1) 0 = b at yk1 hka1 HNE HST
              obtain ⟨ax, cx, gx, hv1, hv2, hv3⟩ := HUI.out a hka
              obtain ⟨ay, cy, gy, hw1, hw2, hw3⟩ := HUI.out b hka1
              have ua := (HRr.out.below HBx.out hrl).cell a hka
              have ui := (HRr.out.below HBx.out hrl).cell b hka1
              simp only [hka, hka1, if_true] at ua ui
              rw [hv1] at ua
              rw [hw1] at ui
              have HCALL : Hid (∀ q, Calls Tryz.prog 24 #[.slice ax (us a).length cx, .slice ay (us b).length cy] (wx.drewN q) fun e w' => e = .returned (.int .i64 (cmpU (us a) (us b))) ∧ ∃ m, w' = (wx.drewN q).drewN m) := by
                intro q
                exact cmpUnits_any (us a) (us b) gx gy 0 0 cx cy (wx.drewN q) (HUU.out a hka).2 (HUU.out b hka1).2 ax ay (fun h => (hv2 h).1) (fun h => (hw2 h).1)
                  (fun t ht => by rw [Nat.zero_add]; exact (HBx.out.cell (p := ⟨gx, t, none⟩) (hv2 (by omega)).2).trans (hv3 t ht)) (fun t ht => by rw [Nat.zero_add]; exact (HBx.out.cell (p := ⟨gy, t, none⟩) (hw2 (by omega)).2).trans (hw3 t ht))
              generalize hlx : (us a).length = lx at ua HCALL
              generalize hly : (us b).length = ly at ui HCALL
              have HZ : Hid (cmpU (us a) (us b) = 0 → ∃ a b, a < m ∧ b < m ∧ a ≠ b ∧ cmpU (us a) (us b) = 0) := fun h => ⟨a, b, hka, hka1, HNE.out, h⟩
              generalize hcc : cmpU (us a) (us b) = cc at HCALL HZ HST
              have HAK := hide hak
              have HAK1 := hide hak1
              clear hak hak1 hcc hlx hly hv1 hv2 hv3 hw1 hw2 hw3
              have b1 : (a : Int) < (m : Int) := by omega
              have b2 : (0 : Int) ≤ (a : Int) := by omega
              have b3 : (k : Int) < (m : Int) := by omega
              have b4 : (0 : Int) ≤ (b : Int) := by omega
              have b6 : (b : Int) < (m : Int) := by omega
              have b5 : ((k + 1 : Nat) : Int) < (m : Int) := by omega
              by_cases hc0 : cc = 0
              · have hcb : (cc == 0) = true := by simp [hc0]
                have HZ2 := hide (HZ.out hc0)
                clear HZ HST hc0
                go_wp2
                go_quiet (first | (go_at_call 24; refine Calls.quiet_of (HCALL.out _)))
                go_wp2
                refine ⟨⟨k + 1, false, by go_num, rfl, by omega, fun h => Bool.noConfusion h, fun _ => HZ2.out, HRx.out.drewN nq, belowN HBx.out nq⟩, by simp [intOf]; omega⟩
              · have hcb : (cc == 0) = false := by simpa using hc0
                have HS2 := hide (HST.out hc0)
                clear HZ HST hc0
                go_wp2
                go_quiet (first | (go_at_call 24; refine Calls.quiet_of (HCALL.out _)))
                go_wp2
                refine ⟨⟨k + 1, db, by go_num, rfl, by omega, HS2.out, HD2.out, HRx.out.drewN nq, belowN HBx.out nq⟩, by simp [intOf]; omega⟩
            · have hkd : ¬ ((k + 1 : Nat) : Int) < (m : Int) := by omega
              go_wp2
              go_ret2
              refine ⟨wa.heap.size, A, db, rfl, HRx.out, HP.out, HS.out, fun h => StrictP.of us HS.out (fun x hx => HD1.out h x (by omega)), HD2.out, ?_⟩
              exact HB.out.trans (HBx.out.mono (by omega))

end Go.Proofs.Qxb6616638aGreatFmt
