/-
  THE PROOF OF 'Rows.FnKindStringNamesEachKindOnceCardSaid': the walk of the law; the row, its three listed tables opened; the tied card. After the guide's MapyProofs.lean and MapyCard.lean.
-/
import Derived.Test.Qxb6617676aDoorWalks
import Derived.Test.Qxb6617676aDoorTie
import Derived.Test.Qxb6617676aDoorCards
import Derived.ProofKit
import Derived.LaidMore
import Derived.OpenShut
import Derived.Stop.Joined
import Derived.Stop.LaidErr
import Derived.Lib.LaidTab
import Derived.SevenTiedAt
namespace Go.Proofs.Qxb6617676aDoor
open Go.ChangeShapes Go.WideShapes Go.ChangeAt Go.RowKit
open Plain

theorem own : ownKnob Tryd.prog.godebug = none := by kernel_rfl
theorem gPow : Tryd.prog.globalNamed (Rows.fnKindStringNamesEachKindOnceRow.named.headD "") = some 0 := by kernel_rfl

theorem TabOk.below {w w' : World} (h : TabOk w) (hb : Below w.heap.size w w') (hl : 0 < w.heap.size) : TabOk w' := var?_below hb gPow hl h

/-- A name read back gives its kind. -/
theorem parse_any (k : Nat) (hk : k < 256) (w : World) : Calls Tryd.prog 5 #[.string (nm k)] w fun e w' => e = .returned (.tuple #[.int .u8 k, .bool true]) ∧ w' = w := by
  by_cases h1 : k = 1
  · subst h1; exact parse_keep w
  by_cases h2 : k = 2
  · subst h2; exact parse_ike w
  by_cases h3 : k = 3
  · subst h3; exact parse_esp w
  refine parse_num k (digits k) (nm k) (digits_of k hk) hk h1 h2 h3 ?_ w
  unfold nm
  rw [if_neg h1, if_neg h2, if_neg h3]

theorem walk (a b : Nat) (ha : a < 256) (hb : b < 256) (w : World) (htab : TabOk w) (hl : 0 < w.heap.size) :
    Calls Tryd.prog 3 #[.int .u8 a, .int .u8 b] w fun e w' => e = .returned (.bool true) ∧ Below w.heap.size w w' := by
  have HT : Hid (TabOk w) := htab
  clear htab
  have na : ((a : Int) != (a : Int)) = false := by simp
  have nb : ((b : Int) != (b : Int)) = false := by simp
  go_enter Tryd.func3, Tryd.ntmps3
  go_wp2_with fail
  refine (string_any a ha _ HT.out).mono ?_
  rintro e w1 ⟨rfl, hb1⟩
  go_wp2_with fail
  refine (string_any b hb _ (HT.out.below hb1 hl)).mono ?_
  rintro e w2 ⟨rfl, hb2⟩
  have hbel : Below w.heap.size w w2 := hb1.trans (hb2.mono hb1.size)
  by_cases hab : a = b
  · subst hab
    go_wp2_with fail
    refine (parse_any a ha _).mono ?_
    rintro e w3 ⟨rfl, rfl⟩
    go_wp2_with fail
    refine (parse_any a ha _).mono ?_
    rintro e w4 ⟨rfl, rfl⟩
    go_wp2
    go_ret
    exact ⟨rfl, hbel⟩
  · have hne : ((nm a).toList == (nm b).toList) = false := by
      rw [beq_eq_false_iff_ne]
      intro h
      apply hab
      apply nm_inj ha hb
      rw [ByteArray.toList_eq, ByteArray.toList_eq] at h
      exact ByteArray.ext (Array.ext' h)
    have hni : ((a : Int) == (b : Int)) = false := by simp; omega
    clear hab
    go_wp2_with fail
    refine (parse_any a ha _).mono ?_
    rintro e w3 ⟨rfl, rfl⟩
    go_wp2_with fail
    refine (parse_any b hb _).mono ?_
    rintro e w4 ⟨rfl, rfl⟩
    go_wp2
    go_ret
    exact ⟨rfl, hbel⟩

theorem tPow : (Tryd.prog.globals[0]?).map (·.type) = some 38 := by kernel_rfl

/-- The door's own heap meets the condition: three closed facts. -/
theorem door_met (os : Os) (args : Array Value) : laidMetH Tryd.prog Rows.fnKindStringNamesEachKindOnceRow.laid ((World.doorLaid Tryd.prog 400 os).forCall (fun _ _ => 0) ⟨#[], args, []⟩).memory :=
  laidMetH_of_parts3 (fuel := 8) (laidMet_of_run' 8 (by kernel_rfl) (by kernel_rfl)) (by kernel_rfl) (by kernel_rfl)

/-- WHAT THE CONDITION GIVES THE WALK: the table of powers of ten. -/
theorem of_laid {W : World} (h : laidMetH Tryd.prog Rows.fnKindStringNamesEachKindOnceRow.laid W) : TabOk W ∧ 0 < W.heap.size := by
  rw [MakeChecks.laidMetH_plain _ _ _ (by kernel_rfl)] at h
  have h2 := laidMet.tail (laidMet.tail h)
  have ht : TabOk W := Lib.tabIs_of_head (zs := Lib.pow10Tab) (k := .u64) (e := 30) (n := 20) gPow tPow Tryd.underlying38 Tryd.underlying30 (by kernel_rfl) (by kernel_rfl) h2
  refine ⟨ht, ?_⟩
  have hc := Lib.TabIs.cell ht gPow 0 (by decide)
  exact World.block_lt_of_cell? _ _ hc

set_option maxRecDepth 100000 in
theorem lifted (os : Os) (started : os.Started) (H : Type) (enc : TypeId × Value → H) :
    ReturnsInHanded {} Tryd.checked os 3 .any (fun w args => (Rows.fnKindStringNamesEachKindOnceSpec.pre enc Tryd.prog Tryd.f3 [] false w args ∧ laidMetH Tryd.prog Rows.fnKindStringNamesEachKindOnceRow.laid w) ∧ sizedMet enc Tryd.prog Tryd.f3 (OpenSpec.ofChange Rows.fnKindStringNamesEachKindOnceSpec) false w args)
      (Rows.fnKindStringNamesEachKindOnceSpec.post enc Tryd.prog Tryd.f3 false true false false) := by
  refine returnsInHanded_of_change_and (C := Tryd.checked) (X := fun w _ => laidMetH Tryd.prog Rows.fnKindStringNamesEachKindOnceRow.laid w) (fun _ _ _ hh h => h.of_heap hh) own started (by kernel_rfl) Tryd.func3
    (ChangeSpec.witness_shaped (enc := enc) (C := Tryd.checked) (os := os) (X := fun w _ => laidMetH Tryd.prog Rows.fnKindStringNamesEachKindOnceRow.laid w) false (World.doorLaid Tryd.prog 400 os) #[.int .u8 0, .int .u8 0] 8 rfl (World.shaped_of_RefB (by kernel_rfl) (by kernel_rfl)) (by kernel_rfl) (by kernel_rfl) (by kernel_rfl) (door_met os _)) ?_
  intro W base args ds gs before hval0 hW _ _ hL _
  have hval : ∀ (j : Nat) t v, Tryd.f3.params[j]? = some t → args[j]? = some v → Value.okWide Tryd.prog W .any base t v := hval0
  have hW' := hW
  obtain ⟨p, q, hA0, hV, rfl, hfz, hnd⟩ := hW
  have hA : DataW.TrodAll enc Tryd.prog W 0 (fun _ => true) true Tryd.f3.params.toList args.toList ds p := hA0
  rw [Tryd.params3] at hA hval
  obtain ⟨v0, v1, d0, d1, p0, p1, rfl, rfl, rfl, h0, h1⟩ := trodAll_two hA
  obtain ⟨rfl, rfl⟩ := trodVars_none hV
  obtain ⟨a, rfl, rfl, rfl, wa⟩ := open_int Tryd.underlying5 (hval 0 5 v0 rfl rfl) h0
  obtain ⟨b, rfl, rfl, rfl, wb⟩ := open_int Tryd.underlying5 (hval 1 5 v1 rfl rfl) h1
  obtain ⟨htab, hlt⟩ := of_laid hL
  have ba := bounds_u8 wa
  have bb := bounds_u8 wb
  obtain ⟨x, rfl⟩ := Int.eq_ofNat_of_zero_le ba.1
  obtain ⟨y, rfl⟩ := Int.eq_ofNat_of_zero_le bb.1
  clear hA0 hval0
  refine (walk x y (by omega) (by omega) W htab hlt).mono fun e W' ⟨he, bel⟩ => ?_
  subst he
  exact ⟨_, rfl, _, _, _, [], [], [], hW', trodAll_mk1 (shut_bool Tryd.underlying4 _), trodAll_mk2 (shut_int Tryd.underlying5 wa) (shut_int Tryd.underlying5 wb), rfl, bel.frame _, fun h => by cases h⟩

/-- THE ROW. -/
theorem row_holds : Rows.FnKindStringNamesEachKindOnceSaid :=
  OpenClaim.holds_of_wide 3 Tryd.f3 rfl rfl rfl rfl rfl rfl rfl ⟨rfl, rfl, rfl, rfl, rfl⟩ rfl rfl rfl rfl rfl (by kernel_rfl) Tryd.func3 (by kernel_rfl)
    (of_decide_eq_true (by kernel_rfl)) (by unfold Func.isWrapper; first | (rw [if_pos (by decide +kernel)]; kernel_rfl) | (rw [if_neg (by decide +kernel)]; exact ⟨rfl, rfl⟩))
    (fun os started H enc _ => lifted os started H enc)

/-- THE TIED CARD. -/
theorem card_proved : Rows.FnKindStringNamesEachKindOnceCardSaid :=
  Claim7.holds_tied_plain_at .later [] [.data, .data, .data] true (true, "75b0853865cf006741271d55dac6e1af12373153388578a544d49c67e8dfa097") false
    row_holds (fun _ h => by cases h) (by kernel_rfl) (fun _ h => by cases h) fnKindStringNamesEachKindOnce_row_tie rfl ⟨rfl, rfl⟩ (by kernel_rfl) rfl
    (fun f fn hf hfn => by
      obtain rfl : f = 3 := Option.some.inj ((show Tryd.prog.funcNamed Rows.fnKindStringNamesEachKindOnceRow.func = some 3 by kernel_rfl).symm.trans hf) |>.symm
      obtain rfl : fn = Tryd.f3 := (Option.some.inj (Tryd.func3.symm.trans hfn)).symm
      exact ⟨by kernel_rfl, fun j t ht => by
        rw [Tryd.params3] at ht
        have hm : t ∈ [5, 5] := by simpa using Array.mem_of_getElem? ht
        have hall : ([5, 5].all fun u => !Tryd.prog.wantsStandIn u) = true := by kernel_rfl
        exact (show Tryd.prog.wantsStandIn t = false by simpa using List.all_eq_true.1 hall t hm)⟩)
    (by kernel_rfl)
#print axioms card_proved

end Go.Proofs.Qxb6617676aDoor
