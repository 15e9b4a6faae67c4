/-
  THE WALK of value at an array and at an object.
-/
import Derived.Test.Qxb6616638aGreatFmtValue
namespace Go.Proofs.Qxb6616638aGreatFmt
open Go.RowKit
open Plain
set_option linter.unusedVariables false
set_option maxRecDepth 100000
variable {B n cap B0 T : Nat} {bs : Nat → Nat}

set_option maxHeartbeats 4000000 in
theorem value_object (N : Nat) (ih : ValUpTo B n cap bs B0 T N) (es : List Ent) (i : Nat) (parent : Int) (w : World) (hN : n - i < N + 1) (hn : n ≤ 16383) (hin : i < n) (hL : es.length ≤ i) (hp : -1 ≤ parent) (hp2 : parent < es.length) (ht : Tp w B0 T es) (hx : Txt w B n bs) (hB : B < B0)
    (hci : bs i = 123) :
    Calls Tryz.prog 18 #[.pointer (some ⟨T, 0, none⟩), .slice (some ⟨B, 0, none⟩) n cap, .int .i64 i, .int .i64 parent] w (ValGives bs n w B0 T es i parent) := by
  have HX := hide hx
  have HT := hide ht
  have IH := hide ih
  have HCI := hide hci
  have hcont : isCont (bs i) = true := by rw [hci]; rfl
  have HCO := hide hcont
  have hc := hx.at i hin
  rw [hci] at hc
  have hii : (i : Int) < (n : Int) := by omega
  have hi0 : (0 : Int) ≤ (i : Int) := by omega
  clear hx ht ih hci hcont
  have hcont := HCO
  clear HCO
  go_enter Tryz.func18, Tryz.ntmps18
  go_wp2_with fail
  refine (pushE_any i 0 false false parent HT.out (by omega) (by omega) (by omega) hp (by omega)).mono ?_
  rintro e w1 ⟨rfl, ht1, hb1⟩
  have HT1 := hide ht1
  have HB1 := hide hb1
  have HI0 := hide (Inside.start (bs := bs) (n := n) (es := es) (i := i) (parent := parent))
  clear ht1 hb1 HT
  go_wp2_with fail
  have e1 : ((i : Int) + 1) = ((i + 1 : Nat) : Int) := by omega
  rw [e1]
  clear e1
  refine (skip_any B n cap (i + 1) bs _ hn (by omega) (HX.out.below HB1.out hB)).mono ?_
  rintro e w2 ⟨⟨j0, rfl, hj0, hj0n⟩, rfl⟩
  have HI1 := hide (HI0.out.later hj0)
  have hj0b : j0 ≤ 16384 := by omega
  clear HI0
  generalize hec : es ++ [Ent.mk i 0 false false parent] = ec0 at HT1 HI1
  clear hec
  -- the loop, whichever way the first test went
  have start : ∀ (wr : World) (ec : List Ent) (j : Nat), True := fun _ _ _ => trivial
  clear start
  by_cases h0n : j0 < n
  · have c0 := (HX.out.below HB1.out hB).at j0 h0n
    have i0 : (j0 : Int) < (n : Int) := by omega
    have z0 : (0 : Int) ≤ (j0 : Int) := by omega
    have j0lt : j0 < n := h0n
    generalize bs j0 = y0 at c0
    by_cases y0c : y0 = 125
    · subst y0c
      have HC := hide (HI1.out.close (Nat.le_refl _) j0lt hcont.out hL hp hp2)
      have hlen : ec0.length ≤ 16383 := by have := HI1.out.room; have := HI1.out.ij; omega
      have hkl : es.length < ec0.length := HI1.out.lt
      go_wp2_with fail
      refine (closeAt_any es.length j0 _ HT1.out hlen hkl (by omega) HI1.out.head).mono ?_
      rintro e wz ⟨rfl, htz, hbz⟩
      have HTZ := hide htz
      clear htz
      go_wp2
      go_ret
      exact ⟨⟨_, HTZ.out, .inr ⟨j0 + 1, ret_int (by omega), HC.out⟩⟩, HB1.out.trans hbz⟩
    · have y0' : ((y0 : Int) == 125) = false := by simp; omega
      clear y0c
      go_wp2_with fail
      go_loopw [13] (fun t wr => ∃ (j : Nat) (ec : List Ent), t = .int .i64 j ∧ j ≤ 16384 ∧ Tp wr B0 T ec ∧ Inside bs n es ec i parent j ∧ Below B0 w wr) (fun t _ => 20000 - (intOf t).toNat)
      case atStart => exact ⟨j0, ec0, rfl, hj0b, HT1.out, HI1.out, HB1.out⟩
      case round =>
        obtain ⟨j, ec, rfl, hjb, htc, hic, hbc⟩ := hrel
        have HTc := hide htc
        have HIc := hide hic
        have HBc := hide hbc
        have hroomc : ec.length ≤ es.length + (j - i) := hic.room
        have hijc : i < j := hic.ij
        have hltc : es.length < ec.length := hic.lt
        clear htc hic hbc HT1 HI1 HB1
        by_cases hjn : j < n
        · have cj := (HX.out.below HBc.out hB).at j hjn
          have ij : (j : Int) < (n : Int) := by omega
          have zj : (0 : Int) ≤ (j : Int) := by omega
          have HYJ : Hid (bs j = bs j) := rfl
          by_cases hq : bs j = 34
          · rw [hq] at cj
            have HQ := hide hq
            clear hq HYJ
            go_wp2_with fail
            refine (string_any B n cap j bs _ hn hjn (HX.out.below HBc.out hB)).mono ?_
            rintro e w3 ⟨h, q, rfl⟩
            rcases h with rfl | ⟨e3, rfl, hs3⟩
            · go_wp2
              go_ret
              exact ⟨⟨_, HTc.out.drewN q, .inl rfl⟩, below_drewN HBc.out _⟩
            have HS3 := hide hs3
            have hs3a : j + 2 ≤ e3 := hs3.1
            have hs3b : e3 ≤ n := hs3.2.1
            clear hs3
            go_wp2_with fail
            refine (pushE_any j e3 false true es.length (HTc.out.drewN q) (by omega) (by omega) (by omega) (by omega) (by omega)).mono ?_
            rintro e w5 ⟨rfl, ht5, hb5⟩
            have HT5 := hide ht5
            have HB5 := hide ((below_drewN HBc.out q).trans hb5)
            clear ht5 hb5
            go_wp2_with fail
            refine (skip_any B n cap e3 bs _ hn (by omega) (HX.out.below HB5.out hB)).mono ?_
            rintro e w6 ⟨⟨j6, rfl, hj36, hj6⟩, rfl⟩
            by_cases h6n : j6 < n
            · have c6 := (HX.out.below HB5.out hB).at j6 h6n
              have i6 : (j6 : Int) < (n : Int) := by omega
              have z6 : (0 : Int) ≤ (j6 : Int) := by omega
              generalize bs j6 = y6 at c6
              by_cases y6c : y6 = 58
              · subst y6c
                go_wp2_with fail
                have e6 : ((j6 : Int) + 1) = ((j6 + 1 : Nat) : Int) := by omega
                rw [e6]
                clear e6
                refine (skip_any B n cap (j6 + 1) bs _ hn (by omega) (HX.out.below HB5.out hB)).mono ?_
                rintro e w7 ⟨⟨j7, rfl, hj67, hj7⟩, rfl⟩
                go_wp2_with fail
                refine (IH.out (ec ++ [Ent.mk j e3 false true es.length]) j7 es.length _ (by omega) (by omega) (by simp; omega) (by omega) (by simp; omega) HT5.out (HX.out.below HB5.out hB)).mono ?_
                rintro e wv ⟨⟨ed, htv, hv⟩, hbv⟩
                have HTv := hide htv
                have HBv := hide (HB5.out.trans hbv)
                clear hbv
                rcases hv with rfl | ⟨j3, rfl, hpv⟩
                · go_wp2
                  go_ret
                  exact ⟨⟨_, HTv.out, .inl rfl⟩, HBv.out⟩
                have HIv := hide (HIc.out.member (Nat.le_refl _) HQ.out HS3.out (by omega) hpv)
                have j3b : j3 ≤ n := hpv.jn
                have j37 : j7 < j3 := hpv.ij
                clear htv hpv HTc HT5
                go_wp2_with fail
                refine (skip_any B n cap j3 bs _ hn (by omega) (HX.out.below HBv.out hB)).mono ?_
                rintro e w4 ⟨⟨j4, rfl, hj34, hj4⟩, rfl⟩
                have HI4 := hide (HIv.out.later hj34)
                by_cases h4n : j4 < n
                · have c4 := (HX.out.below HBv.out hB).at j4 h4n
                  have i4 : (j4 : Int) < (n : Int) := by omega
                  have z4 : (0 : Int) ≤ (j4 : Int) := by omega
                  have j4lt : j4 < n := h4n
                  generalize bs j4 = y4 at c4
                  by_cases y4c : y4 = 125
                  · subst y4c
                    have HC := hide (HI4.out.close (Nat.le_refl _) j4lt hcont.out hL hp hp2)
                    have hlen : ed.length ≤ 16383 := by have := HI4.out.room; have := HI4.out.ij; omega
                    have hkl : es.length < ed.length := HI4.out.lt
                    go_wp2_with fail
                    refine (closeAt_any es.length j4 _ HTv.out hlen hkl (by omega) HI4.out.head).mono ?_
                    rintro e wz ⟨rfl, htz, hbz⟩
                    have HTZ := hide htz
                    clear htz
                    go_wp2
                    go_ret
                    exact ⟨⟨_, HTZ.out, .inr ⟨j4 + 1, ret_int (by omega), HC.out⟩⟩, HBv.out.trans hbz⟩
                  · have y4' : ((y4 : Int) == 125) = false := by simp; omega
                    by_cases y4d : y4 = 44
                    · subst y4d
                      go_wp2_with fail
                      have e4 : ((j4 : Int) + 1) = ((j4 + 1 : Nat) : Int) := by omega
                      rw [e4]
                      clear e4
                      refine (skip_any B n cap (j4 + 1) bs _ hn (by omega) (HX.out.below HBv.out hB)).mono ?_
                      rintro e w5 ⟨⟨j5, rfl, hj45, hj5⟩, rfl⟩
                      go_wp2
                      exact ⟨⟨j5, ed, rfl, by omega, HTv.out, HI4.out.later (by omega), HBv.out⟩, by simp [intOf]; omega⟩
                    · have y4'' : ((y4 : Int) != 44) = true := by simp; omega
                      go_wp2
                      go_ret
                      exact ⟨⟨_, HTv.out, .inl rfl⟩, HBv.out⟩
                · have i4 : (n : Int) ≤ (j4 : Int) := by omega
                  go_wp2
                  go_ret
                  exact ⟨⟨_, HTv.out, .inl rfl⟩, HBv.out⟩
              · have y6' : ((y6 : Int) != 58) = true := by simp; omega
                go_wp2
                go_ret
                exact ⟨⟨_, HT5.out, .inl rfl⟩, HB5.out⟩
            · have i6 : (n : Int) ≤ (j6 : Int) := by omega
              go_wp2
              go_ret
              exact ⟨⟨_, HT5.out, .inl rfl⟩, HB5.out⟩
          · generalize bs j = yj at cj hq
            have yj' : ((yj : Int) != 34) = true := by simp; omega
            go_wp2
            go_ret
            exact ⟨⟨_, HTc.out, .inl rfl⟩, HBc.out⟩
        · go_wp2
          go_ret
          exact ⟨⟨_, HTc.out, .inl rfl⟩, HBc.out⟩

  · have d0 : decide ((j0 : Int) < (n : Int)) = false := by simp; omega
    go_wp2_with fail
    go_loopw [13] (fun t wr => ∃ (j : Nat) (ec : List Ent), t = .int .i64 j ∧ j ≤ 16384 ∧ Tp wr B0 T ec ∧ Inside bs n es ec i parent j ∧ Below B0 w wr) (fun t _ => 20000 - (intOf t).toNat)
    case atStart => exact ⟨j0, ec0, rfl, hj0b, HT1.out, HI1.out, HB1.out⟩
    case round =>
      obtain ⟨j, ec, rfl, hjb, htc, hic, hbc⟩ := hrel
      have HTc := hide htc
      have HIc := hide hic
      have HBc := hide hbc
      have hroomc : ec.length ≤ es.length + (j - i) := hic.room
      have hijc : i < j := hic.ij
      have hltc : es.length < ec.length := hic.lt
      clear htc hic hbc HT1 HI1 HB1
      by_cases hjn : j < n
      · have cj := (HX.out.below HBc.out hB).at j hjn
        have ij : (j : Int) < (n : Int) := by omega
        have zj : (0 : Int) ≤ (j : Int) := by omega
        have HYJ : Hid (bs j = bs j) := rfl
        by_cases hq : bs j = 34
        · rw [hq] at cj
          have HQ := hide hq
          clear hq HYJ
          go_wp2_with fail
          refine (string_any B n cap j bs _ hn hjn (HX.out.below HBc.out hB)).mono ?_
          rintro e w3 ⟨h, q, rfl⟩
          rcases h with rfl | ⟨e3, rfl, hs3⟩
          · go_wp2
            go_ret
            exact ⟨⟨_, HTc.out.drewN q, .inl rfl⟩, below_drewN HBc.out _⟩
          have HS3 := hide hs3
          have hs3a : j + 2 ≤ e3 := hs3.1
          have hs3b : e3 ≤ n := hs3.2.1
          clear hs3
          go_wp2_with fail
          refine (pushE_any j e3 false true es.length (HTc.out.drewN q) (by omega) (by omega) (by omega) (by omega) (by omega)).mono ?_
          rintro e w5 ⟨rfl, ht5, hb5⟩
          have HT5 := hide ht5
          have HB5 := hide ((below_drewN HBc.out q).trans hb5)
          clear ht5 hb5
          go_wp2_with fail
          refine (skip_any B n cap e3 bs _ hn (by omega) (HX.out.below HB5.out hB)).mono ?_
          rintro e w6 ⟨⟨j6, rfl, hj36, hj6⟩, rfl⟩
          by_cases h6n : j6 < n
          · have c6 := (HX.out.below HB5.out hB).at j6 h6n
            have i6 : (j6 : Int) < (n : Int) := by omega
            have z6 : (0 : Int) ≤ (j6 : Int) := by omega
            generalize bs j6 = y6 at c6
            by_cases y6c : y6 = 58
            · subst y6c
              go_wp2_with fail
              have e6 : ((j6 : Int) + 1) = ((j6 + 1 : Nat) : Int) := by omega
              rw [e6]
              clear e6
              refine (skip_any B n cap (j6 + 1) bs _ hn (by omega) (HX.out.below HB5.out hB)).mono ?_
              rintro e w7 ⟨⟨j7, rfl, hj67, hj7⟩, rfl⟩
              go_wp2_with fail
              refine (IH.out (ec ++ [Ent.mk j e3 false true es.length]) j7 es.length _ (by omega) (by omega) (by simp; omega) (by omega) (by simp; omega) HT5.out (HX.out.below HB5.out hB)).mono ?_
              rintro e wv ⟨⟨ed, htv, hv⟩, hbv⟩
              have HTv := hide htv
              have HBv := hide (HB5.out.trans hbv)
              clear hbv
              rcases hv with rfl | ⟨j3, rfl, hpv⟩
              · go_wp2
                go_ret
                exact ⟨⟨_, HTv.out, .inl rfl⟩, HBv.out⟩
              have HIv := hide (HIc.out.member (Nat.le_refl _) HQ.out HS3.out (by omega) hpv)
              have j3b : j3 ≤ n := hpv.jn
              have j37 : j7 < j3 := hpv.ij
              clear htv hpv HTc HT5
              go_wp2_with fail
              refine (skip_any B n cap j3 bs _ hn (by omega) (HX.out.below HBv.out hB)).mono ?_
              rintro e w4 ⟨⟨j4, rfl, hj34, hj4⟩, rfl⟩
              have HI4 := hide (HIv.out.later hj34)
              by_cases h4n : j4 < n
              · have c4 := (HX.out.below HBv.out hB).at j4 h4n
                have i4 : (j4 : Int) < (n : Int) := by omega
                have z4 : (0 : Int) ≤ (j4 : Int) := by omega
                have j4lt : j4 < n := h4n
                generalize bs j4 = y4 at c4
                by_cases y4c : y4 = 125
                · subst y4c
                  have HC := hide (HI4.out.close (Nat.le_refl _) j4lt hcont.out hL hp hp2)
                  have hlen : ed.length ≤ 16383 := by have := HI4.out.room; have := HI4.out.ij; omega
                  have hkl : es.length < ed.length := HI4.out.lt
                  go_wp2_with fail
                  refine (closeAt_any es.length j4 _ HTv.out hlen hkl (by omega) HI4.out.head).mono ?_
                  rintro e wz ⟨rfl, htz, hbz⟩
                  have HTZ := hide htz
                  clear htz
                  go_wp2
                  go_ret
                  exact ⟨⟨_, HTZ.out, .inr ⟨j4 + 1, ret_int (by omega), HC.out⟩⟩, HBv.out.trans hbz⟩
                · have y4' : ((y4 : Int) == 125) = false := by simp; omega
                  by_cases y4d : y4 = 44
                  · subst y4d
                    go_wp2_with fail
                    have e4 : ((j4 : Int) + 1) = ((j4 + 1 : Nat) : Int) := by omega
                    rw [e4]
                    clear e4
                    refine (skip_any B n cap (j4 + 1) bs _ hn (by omega) (HX.out.below HBv.out hB)).mono ?_
                    rintro e w5 ⟨⟨j5, rfl, hj45, hj5⟩, rfl⟩
                    go_wp2
                    exact ⟨⟨j5, ed, rfl, by omega, HTv.out, HI4.out.later (by omega), HBv.out⟩, by simp [intOf]; omega⟩
                  · have y4'' : ((y4 : Int) != 44) = true := by simp; omega
                    go_wp2
                    go_ret
                    exact ⟨⟨_, HTv.out, .inl rfl⟩, HBv.out⟩
              · have i4 : (n : Int) ≤ (j4 : Int) := by omega
                go_wp2
                go_ret
                exact ⟨⟨_, HTv.out, .inl rfl⟩, HBv.out⟩
            · have y6' : ((y6 : Int) != 58) = true := by simp; omega
              go_wp2
              go_ret
              exact ⟨⟨_, HT5.out, .inl rfl⟩, HB5.out⟩
          · have i6 : (n : Int) ≤ (j6 : Int) := by omega
            go_wp2
            go_ret
            exact ⟨⟨_, HT5.out, .inl rfl⟩, HB5.out⟩
        · generalize bs j = yj at cj hq
          have yj' : ((yj : Int) != 34) = true := by simp; omega
          go_wp2
          go_ret
          exact ⟨⟨_, HTc.out, .inl rfl⟩, HBc.out⟩
      · go_wp2
        go_ret
        exact ⟨⟨_, HTc.out, .inl rfl⟩, HBc.out⟩


end Go.Proofs.Qxb6616638aGreatFmt
