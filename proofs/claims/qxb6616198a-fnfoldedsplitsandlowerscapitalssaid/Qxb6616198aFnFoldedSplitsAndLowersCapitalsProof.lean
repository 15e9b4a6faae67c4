/-
  THE PROOF OF 'Rows.FnFoldedSplitsAndLowersCapitalsSaid'. The frame ('lifted', 'over', 'proved') is the guide's template as the skeleton tool writes it; the walk is ours. The post is shut by 'Below' in the place of 'Grown': a row that '[]byte(s)' lays bears a mark behind its last cell.
-/
import Derived.Test.Qxb6616198aWalks
import Derived.WalkKit
import Derived.ProofKit
import Derived.OpenShut
import Derived.ShutString
import Derived.ChangeOld
import Derived.Below
namespace Go.Proofs.Qxb6616198a.fnFoldedSplitsAndLowersCapitals
open Go.ChangeShapes Go.WideShapes Go.ChangeAt Go.RowKit
open Go.ChangeMaps (open_string shut_string)
open Plain
set_option linter.unusedVariables false      -- a walk need not use every 'w<i>' (that an integer argument fits its kind)

theorem own : ownKnob Try.prog.godebug = none := by kernel_rfl

/-! ### STEP 1: THE WALK: the Go text returns true, and writes nothing that was there. -/
theorem walk (a0 : Bool) (a1 : ByteArray) (a2 : ByteArray) (w1 : a1.size ≤ maxLen) (w2 : a2.size ≤ maxLen) (w : World) :
    Calls Try.prog 4 #[.bool a0, .string a1, .string a2] w fun e w' => e = .returned (.bool true) ∧ Below w.heap.size w w' := by
  by_cases hsum : a1.size + a2.size ≤ 1048576
  · go_enter Try.func4, Try.ntmps4
    go_wp2_with fail
    refine (zzBytes_yes a0 a1 a2 hsum _).mono ?_
    rintro e w' ⟨rfl, rfl⟩
    go_wp2_with fail
    refine (newGlob_any a0 _).mono ?_
    rintro e wg ⟨rfl, hcell, hsize, hbel⟩
    have HSZ : Hid (wg.heap.size = w'.heap.size + 1) := hsize
    clear hsize
    have hsz : (a1 ++ a2).size ≤ 1048576 := by rw [ByteArray.size_append]; exact hsum
    go_wp2_with fail
    refine (zzfolded_any a0 _ (a1 ++ a2) _ hsz hcell).mono ?_
    rintro e w3 ⟨rfl, hb3⟩
    have hc3 : w3.cell? ⟨w'.heap.size, 1, none⟩ = some (.bool a0) := by rw [hb3.cell (by rw [HSZ.out]; simp)]; exact hcell
    go_wp2_with fail
    refine (zzfolded_any a0 _ a1 _ (by omega) hc3).mono ?_
    rintro e w4 ⟨rfl, hb4⟩
    have hc4 : w4.cell? ⟨w'.heap.size, 1, none⟩ = some (.bool a0) := by rw [hb4.cell (by have := hb3.size; rw [HSZ.out] at this; simp; omega)]; exact hc3
    go_wp2_with fail
    refine (zzfolded_any a0 _ a2 _ (by omega) hc4).mono ?_
    rintro e w5 ⟨rfl, hb5⟩
    have heq : (foldS a0 (a1 ++ a2)).toList = (foldS a0 a1 ++ foldS a0 a2).toList := by rw [foldS_append]
    have hle : (foldS a0 a1).size + (foldS a0 a2).size ≤ 1048576 := by rw [foldS_size, foldS_size]; exact hsum
    go_wp2_with fail
    refine (foldsTo_yes a0 a1 _ (by omega) (foldS_size _ _) (foldS_at a0 a1) _).mono ?_
    rintro e w6 ⟨rfl, rfl⟩
    go_wp2_with fail
    refine (foldsTo_yes a0 a2 _ (by omega) (foldS_size _ _) (foldS_at a0 a2) _).mono ?_
    rintro e w7 ⟨rfl, rfl⟩
    go_wp2
    go_ret
    refine ⟨rfl, hbel.trans ((hb3.mono hbel.size).trans ((hb4.mono (Nat.le_trans hbel.size hb3.size)).trans (hb5.mono (Nat.le_trans hbel.size (Nat.le_trans hb3.size hb4.size)))))⟩
  · go_enter Try.func4, Try.ntmps4
    go_wp2_with fail
    refine (zzBytes_no a0 a1 a2 w1 w2 (by omega) _).mono ?_
    rintro e w' ⟨rfl, rfl⟩
    go_wp2
    go_ret
    exact ⟨rfl, Below.refl _ _⟩

/-! ### THE ROW's STEP: WRITTEN OUT: LEAVE IT -/
set_option maxRecDepth 100000 in
theorem lifted (os : Os) (started : os.Started) (H : Type) (enc : TypeId × Value → H) :
    ReturnsInHanded {} Try.checked os 4 .any (Rows.fnFoldedSplitsAndLowersCapitalsSpec.pre6 enc Try.prog Try.f4 Rows.fnFoldedSplitsAndLowersCapitalsRow.domain false) (Rows.fnFoldedSplitsAndLowersCapitalsSpec.post enc Try.prog Try.f4 false true false false) := by
  refine returnsInHanded_of_change (C := Try.checked) own started (by kernel_rfl) Try.func4
    (ChangeSpec.witness6 (enc := enc) (C := Try.checked) false ⟨#[], #[.bool false, .string ByteArray.empty, .string ByteArray.empty], []⟩ 8 (by kernel_rfl) (by kernel_rfl) (by kernel_rfl) (by kernel_rfl)) ?_
  intro W base args ds gs before hval0 hW hcnd _
  have hval : ∀ (j : Nat) t v, Try.f4.params[j]? = some t → args[j]? = some v → Value.okWide Try.prog W .any base t v := hval0
  have hW' := hW
  obtain ⟨p, q, hA0, hV, rfl, hfz, hnd⟩ := hW
  have hA : DataW.TrodAll enc Try.prog W 0 (fun _ => true) true Try.f4.params.toList args.toList ds p := hA0
  rw [Try.params4] at hA hval
  obtain ⟨v0, vs0, d0, ds0, p0, q0, hargs, rfl, rfl, h0, r0⟩ := trodAll_cons hA
  obtain ⟨v1, vs1, d1, ds1, p1, q1, rfl, rfl, rfl, h1, r1⟩ := trodAll_cons r0
  obtain ⟨v2, vs2, d2, ds2, p2, q2, rfl, rfl, rfl, h2, r2⟩ := trodAll_cons r1
  obtain ⟨rfl, rfl, rfl⟩ := trodAll_nil r2
  obtain rfl : args = #[v0, v1, v2] := by cases args; simp_all
  obtain ⟨rfl, rfl⟩ := trodVars_none hV
  obtain ⟨a0, rfl, rfl, rfl⟩ := open_bool Try.underlying4 (hval 0 4 v0 rfl rfl) h0
  obtain ⟨a1, rfl, rfl, rfl, w1⟩ := open_string Try.underlying9 (hval 1 9 v1 rfl rfl) h1
  obtain ⟨a2, rfl, rfl, rfl, w2⟩ := open_string Try.underlying9 (hval 2 9 v2 rfl rfl) h2
  clear hA0 hval0
  simp only [List.append_nil] at hW'
  refine (walk a0 a1 a2 w1 w2 W).mono fun e W' ⟨he, bel⟩ => ?_
  subst he
  exact ⟨_, rfl, _, _, _, [], [], [], hW', trodAll_mk1 (shut_bool Try.underlying4 _), (trodAll_cons_mk (shut_bool Try.underlying4 _) (trodAll_cons_mk (shut_string Try.underlying9 w1) (trodAll_cons_mk (shut_string Try.underlying9 w2) trodAll_mk0))), rfl, bel.frame _, fun h => by cases h⟩

theorem over : Rows.fnFoldedSplitsAndLowersCapitalsRow.holds Try.pinned (OpenSpec.ofChange Rows.fnFoldedSplitsAndLowersCapitalsSpec) :=
  OpenClaim.holds_of_wide 4 Try.f4 rfl rfl rfl rfl rfl rfl rfl ⟨rfl, rfl, rfl, rfl, rfl⟩ rfl rfl rfl rfl rfl (by kernel_rfl) Try.func4 (by kernel_rfl)
    (of_decide_eq_true (by kernel_rfl)) (by unfold Func.isWrapper; first | (rw [if_pos (by decide +kernel)]; kernel_rfl) | (rw [if_neg (by decide +kernel)]; exact ⟨rfl, rfl⟩))
    (fun os started H enc _ => lifted os started H enc)

/-- ████ THE STATEMENT ████ -/
theorem proved : Rows.FnFoldedSplitsAndLowersCapitalsSaid :=
  over
#print axioms proved
end Go.Proofs.Qxb6616198a.fnFoldedSplitsAndLowersCapitals
