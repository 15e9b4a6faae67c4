/-
  THE PROOF OF 'Rows.FnAddSecondObjectKeepsFirstToldSaid': the law's walk, the row's step, the told card (after the guide's IpowTold.lean, HexbadSeven.lean).
-/
import Derived.Test.Qxb6616638aGreatFmtMain4
import Derived.Test.Qxb6616638aGreatFmtCards
import Derived.ProofKit
import Derived.OpenShut
import Derived.ShutString
import Derived.Below
import Derived.SevenToldRow
import Derived.Stop.JoinedAt
import Derived.Stop.JoinedTold
namespace Go.Proofs.Qxb6616638aGreatFmt.Two
open Go.Proofs.Qxb6616638aGreatFmt
open Go.ChangeShapes Go.WideShapes Go.ChangeAt Go.RowKit
open Go.Extern.Stop Go.Stop Go.Extern
set_option linter.unusedVariables false

theorem own4 : ownKnob Tryz.prog.godebug = none := by kernel_rfl
theorem laidOut4 : laidOutB Tryz.pinned.checked.prog = true := by kernel_rfl
theorem stops4 : Tryz.pinned.checked.prog.stops = ["fmt.errorf"] := by kernel_rfl
theorem stopKnobs4 : Tryz.pinned.checked.prog.stopKnobs = [] := by kernel_rfl
theorem quiet4 (os : Os) : Stop.quiet Tryz.pinned.checked.prog os := by
  intro k hk
  rw [stopKnobs4] at hk
  cases hk

set_option maxRecDepth 100000 in
theorem walk4_nil (w : World) (k k2 : Int) : Calls Tryz.prog 4 #[.slice none 0 0, .int .i64 k, .int .i64 k2] w fun e w' => e = .returned (.bool true) ∧ Below w.heap.size w w' := by
  have hnil := fun (w : World) => run_neq_slice_nil_any (P := Tryz.prog) w 22 5 none 0 0 0 0 Tryz.underlying22
  go_enter Tryz.func4, Tryz.ntmps4
  go_wp2_with fail
  refine (zzBytes11_yes none 0 0 k k2 (by omega) _).mono ?_
  rintro e w' ⟨rfl, hw⟩
  have hw := hw.symm
  subst hw
  go_wp2_with fail
  refine (zzBuild_nil w).mono ?_
  rintro e w3 ⟨⟨v, rfl, hone⟩, hb3⟩
  have st0 := fun (a : Addr) (w : World) (m : Mode) => run_store Tryz.prog w a (v 0) m (hone 0 (by omega))
  have st1 := fun (a : Addr) (w : World) (m : Mode) => run_store Tryz.prog w a (v 1) m (hone 1 (by omega))
  have st2 := fun (a : Addr) (w : World) (m : Mode) => run_store Tryz.prog w a (v 2) m (hone 2 (by omega))
  have st3 := fun (a : Addr) (w : World) (m : Mode) => run_store Tryz.prog w a (v 3) m (hone 3 (by omega))
  have st4 := fun (a : Addr) (w : World) (m : Mode) => run_store Tryz.prog w a (v 4) m (hone 4 (by omega))
  clear hone
  go_wp2
  go_ret
  exact ⟨rfl, hb3.alloc hb3.size _⟩

set_option maxRecDepth 100000 in
theorem walk4_long (a : Option Addr) (len cap : Nat) (k k2 : Int) (w : World) (h : 16383 < len) : Calls Tryz.prog 4 #[.slice a len cap, .int .i64 k, .int .i64 k2] w fun e w' => e = .returned (.bool true) ∧ Below w.heap.size w w' := by
  by_cases h2 : 1048576 < len
  · go_enter Tryz.func4, Tryz.ntmps4
    go_wp2_with fail
    refine (zzBytes11_no a len cap k k2 h2 _).mono ?_
    rintro e w' ⟨rfl, hw⟩
    have hw := hw.symm
    subst hw
    go_wp2
    go_ret
    exact ⟨rfl, Below.refl _ _⟩
  · have h1 : (16383 : Int) < (len : Int) := by omega
    go_enter Tryz.func4, Tryz.ntmps4
    go_wp2_with fail
    refine (zzBytes11_yes a len cap k k2 (by omega) _).mono ?_
    rintro e w' ⟨rfl, hw⟩
    have hw := hw.symm
    subst hw
    go_wp2
    go_ret
    exact ⟨rfl, Below.refl _ _⟩

theorem walk4 (F : Interp) (a0 : Option Addr) (len0 cap0 : Nat) (z0 : List Int) (a1 a2 : Int) (w : World) (hF : F.answers w.tape) (w0 : IsRow .u8 w a0 len0 cap0 z0) (w1 : (Lit.int .i64 a1).wf = true) (w2 : (Lit.int .i64 a2).wf = true) :
    Calls Tryz.prog 4 #[.slice a0 len0 cap0, .int .i64 a1, .int .i64 a2] w fun e w' => e = .returned (.bool true) ∧ Below w.heap.size w w' := by
  rcases w0 with ⟨rfl, rfl, rfl, rfl⟩ | ⟨x, rfl, hlc, _, hz, hc, hwf⟩
  · exact walk4_nil w a1 a2
  · by_cases hl : 16383 < len0
    · exact walk4_long _ _ _ _ _ _ hl
    · exact core4 F x len0 cap0 z0 a1 a2 hF (by omega) hlc hz hc hwf

set_option maxRecDepth 100000 in
theorem lifted4 (os : Os) (started : os.Started) (H : Type) (enc : TypeId × Value → H) :
    ReturnsInTold none {} Tryz.checked os 4 .any Input.okWide ((OpenSpec.ofChange Rows.fnAddSecondObjectKeepsFirstSpec).preRow enc Tryz.prog Tryz.f4 [] false []) (fun F => ((OpenSpec.ofChange Rows.fnAddSecondObjectKeepsFirstSpec).at F).post enc Tryz.prog Tryz.f4 false Rows.fnAddSecondObjectKeepsFirstRow.fresh Rows.fnAddSecondObjectKeepsFirstRow.handsOn Rows.fnAddSecondObjectKeepsFirstRow.again) (aloneAtReturn Tryz.prog) nothingAlways := by
  refine returnsInTold_of_row (C := Tryz.checked) (s := OpenSpec.ofChange Rows.fnAddSecondObjectKeepsFirstSpec) (by kernel_rfl) own4 started (by kernel_rfl) Tryz.func4
    (OpenSpec.witness_stopped (enc := enc) (C := Tryz.checked) false ⟨#[], #[.slice none 0 0, .int .i64 0, .int .i64 0], []⟩ 8 (by kernel_rfl) (by kernel_rfl) (by kernel_rfl) (by kernel_rfl)) ?_
  intro F W base args ds gs before _ hF hval0 hW _ _ _ _ _
  have hval : ∀ (j : Nat) t v, Tryz.f4.params[j]? = some t → args[j]? = some v → Value.okWide Tryz.prog W .any base t v := hval0
  have hW' := hW
  obtain ⟨p, q, hA0, hV, rfl, hfz, hnd⟩ := hW
  have hA : DataW.TrodAll enc Tryz.prog W 0 (fun _ => true) true Tryz.f4.params.toList args.toList ds p := hA0
  rw [Tryz.params4] at hA hval
  obtain ⟨v0, vs0, d0, ds0, p0, q0, hargs, rfl, rfl, h0, r0⟩ := trodAll_cons hA
  obtain ⟨v1, vs1, d1, ds1, p1, q1, rfl, rfl, rfl, h1, r1⟩ := trodAll_cons r0
  obtain ⟨v2, vs2, d2, ds2, p2, q2, rfl, rfl, rfl, h2, r2⟩ := trodAll_cons r1
  obtain ⟨rfl, rfl, rfl⟩ := trodAll_nil r2
  obtain rfl : args = #[v0, v1, v2] := by cases args; simp_all
  obtain ⟨rfl, rfl⟩ := trodVars_none hV
  obtain ⟨a0, len0, cap0, rfl⟩ := okWide_slice Tryz.underlying22 (hval 0 22 v0 rfl rfl)
  have k0 := h0
  have lt0 : ∀ x ∈ p0, x.block < W.heap.size := by obtain ⟨m, hm⟩ := k0; exact DataW.trod_lt m _ _ _ hm
  obtain ⟨z0, w0⟩ : ∃ zs, IsRow .u8 W a0 len0 cap0 zs := by
    obtain ⟨fuel, hf⟩ := h0
    rcases open_ints Tryz.underlying22 Tryz.underlying5 (by kernel_rfl) hf with ⟨hcs, _⟩ | ⟨x, l, c, zs, hcs, _, hl, hm, hz, _, hcell, hwz⟩
    · simp [Value.cells] at hcs
      obtain ⟨rfl, rfl, rfl⟩ := hcs
      exact ⟨[], .inl ⟨rfl, rfl, rfl, rfl⟩⟩
    · simp [Value.cells] at hcs
      obtain ⟨rfl, rfl, rfl⟩ := hcs
      exact ⟨zs, .inr ⟨_, rfl, hl, hm, by simpa using hz, hcell, hwz⟩⟩
  obtain ⟨a1, rfl, rfl, rfl, w1⟩ := open_int Tryz.underlying3 (hval 1 3 v1 rfl rfl) h1
  obtain ⟨a2, rfl, rfl, rfl, w2⟩ := open_int Tryz.underlying3 (hval 2 3 v2 rfl rfl) h2
  clear hA0 hval0
  refine (walk4 F.told a0 len0 cap0 z0 a1 a2 W hF w0 w1 w2).mono fun e W' ⟨he, bel⟩ => ?_
  subst he
  exact ⟨_, rfl, _, _, _, [], _, [], hW', trodAll_mk1 (shut_bool Tryz.underlying4 _), (trodAll_cons_mk (Below.trod laidOut4 (by kernel_rfl) (of_decide_eq_true (by kernel_rfl)) k0 bel lt0) (trodAll_cons_mk (shut_int Tryz.underlying3 w1) (trodAll_cons_mk (shut_int Tryz.underlying3 w2) trodAll_mk0))), rfl, bel.frame _, fun h => by cases h⟩

end Go.Proofs.Qxb6616638aGreatFmt.Two
namespace Go.Proofs.Qxb6616638aGreatFmt
open Go.ChangeShapes Go.WideShapes Go.ChangeAt Go.RowKit
open Go.Extern.Stop Go.Stop Go.Extern
open Two
/-- THE STATEMENT. -/
theorem fnAddSecond_proved : Rows.FnAddSecondObjectKeepsFirstToldSaid :=
  Claim7.holds_of_told_any 4 Tryz.f4 "fmt.errorf" [] [] _ _ _ (by kernel_rfl) rfl rfl rfl laidOut4 (by kernel_rfl) rfl ⟨rfl, rfl, rfl, rfl, rfl, rfl, rfl⟩ rfl rfl (by kernel_rfl) (by kernel_rfl) Tryz.func4 (by kernel_rfl)
    (of_decide_eq_true (by kernel_rfl)) (of_decide_eq_true (by kernel_rfl)) stops4.symm rfl stopKnobs4.symm (by kernel_rfl)
    (by kernel_rfl) (by kernel_rfl) (by kernel_rfl) (by kernel_rfl) (by kernel_rfl) (by kernel_rfl) (by kernel_rfl) (by kernel_rfl) (by kernel_rfl) rfl (by kernel_rfl) rfl rfl
    rfl rfl
    rfl (by kernel_rfl) (by kernel_rfl) (by kernel_rfl) (by decide) (by kernel_rfl)
    (OpenClaim.moreEntering_of (by kernel_rfl) (by kernel_rfl) (by kernel_rfl) (by kernel_rfl) (by kernel_rfl) (by kernel_rfl) (by kernel_rfl) (by kernel_rfl) (by kernel_rfl) (by kernel_rfl))
    ⟨_, WideRow.started_initial, quiet4 _⟩
    (fun os started _ H enc _ => lifted4 os started H enc)
#print axioms fnAddSecond_proved
end Go.Proofs.Qxb6616638aGreatFmt
