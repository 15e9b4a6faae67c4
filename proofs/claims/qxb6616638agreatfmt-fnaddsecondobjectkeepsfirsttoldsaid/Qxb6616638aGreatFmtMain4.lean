/-
  THE WALK of FnAddSecondObjectKeepsFirst.
-/
import Derived.Test.Qxb6616638aGreatFmtMain4b
namespace Go.Proofs.Qxb6616638aGreatFmt.Two
open Go.Proofs.Qxb6616638aGreatFmt
open Go.RowKit
open Go.Extern.Stop Go.Stop Go.Extern
open Plain
set_option linter.unusedVariables false
set_option maxRecDepth 100000

variable {w : World}

set_option maxHeartbeats 16000000 in
theorem core4 (F : Interp) (x : Addr) (len cap : Nat) (zs : List Int) (k1 k2 : Int) (hF : F.answers w.tape) (h64 : len ≤ 16383) (hlc : len ≤ cap) (hz : zs.length = cap) (hc : ∀ i, i < zs.length → w.cell? (x.add i) = some (.int .u8 (zs.getD i 0))) (hwf : ∀ n ∈ zs, (Lit.int .u8 n).wf = true) :
    Calls Tryz.prog 4 #[.slice (some x) len cap, .int .i64 k1, .int .i64 k2] w fun e w' => e = .returned (.bool true) ∧ Below w.heap.size w w' := by
  obtain ⟨W1, W2, A, hmk, hcp, htx, hsz, hbel⟩ := copied x len cap zs w h64 hlc hz hc hwf
  have hnil := fun (w : World) => run_neq_slice_nil_any (P := Tryz.prog) w 22 5 (some x) len cap 0 0 Tryz.underlying22
  have h1 : decide ((16383 : Int) < (len : Int)) = false := by simp; omega
  have h1' : ¬ (16383 : Int) < (len : Int) := by omega
  have HTX := hide htx
  have HBE := hide hbel
  have hF2 : F.answers W2.tape := by rw [hbel.tape]; exact hF
  clear hc hwf hz htx hbel
  obtain ⟨B, hBe⟩ : ∃ B, B = w.heap.size := ⟨_, rfl⟩
  have HBW := hide hBe
  rw [← hBe] at hmk hcp HTX hsz
  clear hBe
  go_enter Tryz.func4, Tryz.ntmps4
  go_wp2_with fail
  refine (zzBytes11_yes _ len cap k1 k2 (by omega) _).mono ?_
  rintro e w' ⟨rfl, hw⟩
  have hw := hw.symm
  subst hw
  go_wp2_with fail
  refine (zzBuild_any (cap := len) W2 h64 HTX.out hsz).mono ?_
  rintro e w3 ⟨hb3, v, ok, rfl, hone, hok⟩
  have o0 := hone 0 (by omega)
  have o1 := hone 1 (by omega)
  have o2 := hone 2 (by omega)
  have o3 := hone 3 (by omega)
  have o4 := hone 4 (by omega)
  have st0 := fun (a : Addr) (w : World) (m : Mode) => run_store Tryz.prog w a (v 0) m o0
  have st1 := fun (a : Addr) (w : World) (m : Mode) => run_store Tryz.prog w a (v 1) m o1
  have st2 := fun (a : Addr) (w : World) (m : Mode) => run_store Tryz.prog w a (v 2) m o2
  have st3 := fun (a : Addr) (w : World) (m : Mode) => run_store Tryz.prog w a (v 3) m o3
  have st4 := fun (a : Addr) (w : World) (m : Mode) => run_store Tryz.prog w a (v 4) m o4
  have HB3 := hide hb3
  have HOK := hide hok
  clear hb3 hone hok
  go_upto_region 10 with (fail)
  obtain ⟨w4, hw4⟩ : ∃ w4, w4 = w3.alloc (.cells #[v 0, v 1, v 2, v 3, v 4] 27) := ⟨_, rfl⟩
  obtain ⟨T, hTe⟩ : ∃ T, T = w3.heap.size := ⟨_, rfl⟩
  have hb4 : Below w3.heap.size w3 w4 := by rw [hw4]; exact (Below.refl _ _).alloc (Nat.le_refl _) _
  have tc : ∀ i, i < 5 → w4.cell? ⟨T, i, none⟩ = some (v i) := by
    intro i hi
    rw [hw4, hTe, World.cell?_alloc_new]
    rcases (show i = 0 ∨ i = 1 ∨ i = 2 ∨ i = 3 ∨ i = 4 by omega) with rfl | rfl | rfl | rfl | rfl <;> rfl
  have hs4 : T < w4.heap.size := World.block_lt_of_cell? _ _ (tc 0 (by omega))
  have hB24 : Below W2.heap.size W2 w4 := HB3.out.trans (hb4.mono HB3.out.size)
  have HB24 := hide hB24
  have HW4 : Hid (Below w.heap.size w w4) := HBE.out.trans (hB24.mono HBE.out.size)
  have hs24 := hB24.size
  have hs34 := HB3.out.size
  have HTC := hide tc
  have HB34 := hide hb4
  rw [← hw4, ← hTe]
  clear hw4 hTe tc hb4 hB24 st0 st1 st2 st3 st4 hmk hcp hnil
  cases ok with
  | false =>
    go_wp2
    go_ret
    exact ⟨rfl, HW4.out⟩
  | true =>
    obtain ⟨es, h5, hbu⟩ := HOK.out rfl
    have hln := hbu.len
    by_cases he : es.length = 0
    · obtain ⟨a0, l0, c0, e0⟩ := (h5 0 (by omega)).isSlice
      have el0 : l0 = 0 := by
        rcases (h5 0 (by omega)).2 with ⟨h, h'⟩ | ⟨_, _, _, h, _⟩
        · rw [h] at e0; injection e0 with _ e _; omega
        · rw [h] at e0; injection e0 with _ e _; omega
      have t0 : w4.cell? ⟨T, 0, none⟩ = some (.slice a0 0 c0) := by rw [HTC.out 0 (by omega), e0, el0]
      clear h5 e0 el0 he HOK
      go_wp2_with fail
      refine (isObject_none _ T a0 c0 k1 t0).mono ?_
      rintro e w' ⟨rfl, hw⟩
      have hw := hw.symm
      subst hw
      go_wp2
      go_ret
      exact ⟨rfl, HW4.out⟩
    · obtain ⟨g, cp, hTR⟩ := TR.of (T := T) (bd := w4.heap.size) (fun i hi => ownsRow_below (h5 i hi) HB34.out) (by omega) HTC.out (Nat.le_refl _)
      have HTR := hide hTR
      have HBU := hide hbu
      have HTX4 : Hid (Txt w4 B len A) := HTX.out.below HB24.out hsz
      clear h5 HOK hTR hbu he
      go_wp2_with fail
      refine (isObject_any B len len A k1 HTR.out h64 HTX4.out HBU.out).mono ?_
      rintro e w' ⟨⟨r, rfl, hr⟩, hw⟩
      have hw := hw.symm
      subst hw
      cases r with
      | false =>
        go_wp2
        go_ret
        exact ⟨rfl, HW4.out⟩
      | true =>
        obtain ⟨K1, rfl, hK1, hcl1, hst1⟩ := hr rfl
        have HCL1 := hide hcl1
        have HST1 := hide hst1
        clear hr hcl1 hst1
        go_wp2_with fail
        refine (isObject_any B len len A k2 HTR.out h64 HTX4.out HBU.out).mono ?_
        rintro e w' ⟨⟨r2, rfl, hr2⟩, hw⟩
        have hw := hw.symm
        subst hw
        cases r2 with
        | false =>
          go_wp2
          go_ret
          exact ⟨rfl, HW4.out⟩
        | true =>
          obtain ⟨K2, rfl, hK2, hcl2, hst2⟩ := hr2 rfl
          obtain ⟨lsE, hls⟩ := ls_ex A es
          obtain ⟨js1, hen1, hch1, hobj1⟩ := obj_of HBU.out hK1 HCL1.out HST1.out hls
          obtain ⟨js2, hen2, hch2, hobj2⟩ := obj_of HBU.out hK2 hcl2 hst2 hls
          have HO1 : Hid (Ob A len es lsE K1 js1) := ⟨hobj1, hch1⟩
          have HO2 : Hid (Ob A len es lsE K2 js2) := ⟨hobj2, hch2⟩
          have l1 := HO1.out.len HBU.out h64
          have l2 := HO2.out.len HBU.out h64
          have t0 := HTR.out.cell 0 (by omega)
          have t1 := HTR.out.cell 1 (by omega)
          clear hls hch1 hobj1 hcl2 hst2 hr2 hch2 hobj2 hen1 hen2 HCL1 HST1
          go_wp2_with fail
          refine (newTape_any (cp 0) (cp 1) HTR.out (Nat.le_refl _) (by omega)).mono ?_
          rintro e w5 ⟨⟨D, rfl, hNT⟩, hb5⟩
          have HNT := hide hNT
          have HB5 := hide hb5
          have hs5 := hb5.size
          clear hNT hb5 t0 t1
          go_upto_region 14 with (refine wpList_names_alloc2 rfl rfl ?_; intro w6 hnb hfz)
          have HTX5 : Txt w5 B len A := HTX4.out.below HB5.out (by omega)
          have hst := fresh_st hnb hfz
          have hb6 := hnb.below
          have hTx6 : TxtEnv w5 w5.heap.size D B len len A es := ⟨HNT.out, HTX5, by omega, h64, Nat.le_refl _, HBU.out⟩
          have hb46 : Below w4.heap.size w4 w6 := HB5.out.trans (hb6.mono hs5)
          have hLaw : Law F w w6 w4.heap.size w5.heap.size D B len T A es g cp :=
            ⟨hTx6.below hb6, ⟨HTR.out.below hb46, HTX4.out.below hb46 (by omega), by omega, hb46.size, HBU.out, h64, Nat.le_refl _⟩, HW4.out.trans (hb46.mono HW4.out.size), by rw [hb6.tape, HB5.out.tape, HB24.out.tape]; exact hF2, hb6.size, hs5, HW4.out.size⟩
          have HL6 := hide hLaw
          have HN6 := hide hst.1
          have HF6 := hide hst.2
          clear hst hLaw hb46 hTx6 hb6 HTX5 hnb hfz
          obtain ⟨O, hO⟩ : ∃ O, O = w5.heap.size := ⟨_, rfl⟩
          rw [← hO] at HL6 HN6 HF6
          rw [← hO]
          clear hO HNT HB5 hs5 HTR HTX4 HW4 HB24 HB34 HTC HB3 HBE HBW HTX hF2 hF
          go_wp2_with fail
          refine (add_first HL6.out HN6.out HF6.out HO1.out).mono ?_
          rintro e w7 ⟨hl7, ⟨rfl, od1, hd1, hn7⟩ | ⟨⟨aa, rfl⟩, hal1, hn7⟩⟩
          · have HL7 := hide hl7
            have HD1 := hide hd1
            have HN7 := hide hn7
            clear hl7 hd1 hn7 HL6 HN6 HF6
            have AG1 : Hid (Calls Tryz.prog 10 #[.slice (some ⟨B, 0, none⟩) len len, .pointer (some ⟨T, 0, none⟩), .int .i64 K1, .pointer (some ⟨O, 0, none⟩), .int .i64 0, .int .i32 0, .int .i32 0, .bool false] w7 fun e w' => e = .returned (.bool true) ∧ Below w7.heap.size w7 w') :=
              agree_yes (first := 0) (ks := []) (os_ := []) HL7.out (by have h := HN7.out.ns; rw [Nat.zero_add]; exact h) KZ.nil HO1.out HD1.out (by omega)
            go_wp2_with fail
            refine AG1.out.mono ?_
            rintro e w8 ⟨rfl, hb8⟩
            have HL8 := hide (HL7.out.belowH hb8)
            have HN8 := hide (HN7.out.below hb8)
            clear hb8 AG1 HL7 HN7
            go_wp2_with fail
            refine (mems_obj HL8.out.env HO1.out.ob).mono ?_
            rintro e w9 ⟨⟨a9, c9, rfl, hs9⟩, hb9⟩
            have HS9 := hide hs9
            have HL9 := hide (HL8.out.belowH hb9)
            have HN9 := hide (HN8.out.below hb9)
            clear hs9 hb9 HL8 HN8
            go_wp2_with fail
            refine (names_obj _ HL9.out.env HO1.out.ob HS9.out).mono ?_
            rintro e w10 ⟨rfl, hr10, hb10⟩
            have HR10 := hide hr10
            have HLa := hide (HL9.out.belowH hb10)
            have HNa := hide (HN9.out.below hb10)
            clear hr10 hb10 HL9 HN9 HS9
            go_wp2_with fail
            refine (sort_yes _ HLa.out HO1.out HD1.out HR10.out).mono ?_
            rintro e w11 ⟨gp, rfl, hb11⟩
            have HLb := hide (HLa.out.belowH hb11)
            have HNb := hide (HNa.out.below hb11)
            clear hb11 HLa HNa HR10
            go_wp2_with fail
            refine (add_second HLb.out HNb.out HO2.out l1).mono ?_
            rintro e w12 ⟨hlc, ⟨rfl, od2, hd2, hnc⟩ | ⟨⟨aa, rfl⟩, hal2, hnc⟩⟩
            · have HLc := hide hlc
              have HD2 := hide hd2
              have HNc := hide hnc
              have HKZ := hide HNb.out.2
              clear hlc hd2 hnc HLb HNb
              go_wp2_with fail
              refine (agree_yes HLc.out HNc.out HKZ.out HO2.out HD2.out l1).mono ?_
              rintro e w13 ⟨rfl, hb13⟩
              have HLd := hide (HLc.out.belowH hb13)
              have HNd := hide (HNc.out.below hb13)
              clear hb13 HLc HNc HKZ
              go_wp2_with fail
              refine (order_any HNd.out.nr).mono ?_
              rintro e w' ⟨⟨ao, co, rfl, hso⟩, hw⟩
              have hw := hw.symm
              subst hw
              have HSO := hide hso
              clear hso
              go_wp2_with fail
              refine (keys_any HNd.out.nr (by omega) (Nat.le_refl _)).mono ?_
              rintro e w14 ⟨g0, g1, g2, g3, rfl, r0, r1, r2, r3, hb14⟩
              have R0 := hide r0
              have R1 := hide r1
              have R2 := hide r2
              have R3 := hide r3
              have HLe := hide (HLd.out.belowH hb14)
              have HSO2 := hide ((HSO.out.below hb14).mono hb14.size)
              clear r0 r1 r2 r3 hb14 HLd HNd HSO
              go_wp2_with fail
              refine (last_any HLe.out HO1.out HD1.out rfl rfl (by omega) (by omega) HSO2.out R0.out R1.out R2.out R3.out).mono ?_
              rintro e w15 ⟨rfl, hb15⟩
              have HLf := hide (HLe.out.belowH hb15)
              clear hb15
              go_wp2
              go_ret
              exact ⟨rfl, HLf.out.out⟩
            · have HLc := hide hlc
              have HA2 := hide hal2
              have HNc := hide hnc
              clear hlc hal2 hnc HLb HNb
              go_wp2_with fail
              refine (agree_not HLc.out HNc.out HO2.out HA2.out l1).mono ?_
              rintro e w13 ⟨rfl, hb13⟩
              have HLd := hide (HLc.out.belowH hb13)
              have HNd := hide (HNc.out.below hb13)
              clear hb13 HLc HNc
              go_wp2_with fail
              refine (order_any HNd.out.nr).mono ?_
              rintro e w' ⟨⟨ao, co, rfl, hso⟩, hw⟩
              have hw := hw.symm
              subst hw
              have HSO := hide hso
              clear hso
              go_wp2_with fail
              refine (keys_any HNd.out.nr (by omega) (Nat.le_refl _)).mono ?_
              rintro e w14 ⟨g0, g1, g2, g3, rfl, r0, r1, r2, r3, hb14⟩
              have R0 := hide r0
              have R1 := hide r1
              have R2 := hide r2
              have R3 := hide r3
              have HLe := hide (HLd.out.belowH hb14)
              have HSO2 := hide ((HSO.out.below hb14).mono hb14.size)
              clear r0 r1 r2 r3 hb14 HLd HNd HSO
              go_wp2_with fail
              refine (last_any (X := []) (Y := []) HLe.out HO1.out HD1.out (List.append_nil _).symm (List.append_nil _).symm (Nat.le_refl _) (by omega) HSO2.out R0.out R1.out R2.out R3.out).mono ?_
              rintro e w15 ⟨rfl, hb15⟩
              have HLf := hide (HLe.out.belowH hb15)
              clear hb15
              go_wp2
              go_ret
              exact ⟨rfl, HLf.out.out⟩
          · have HL7 := hide hl7
            have HA1 := hide hal1
            have HN7 := hide hn7
            clear hl7 hal1 hn7 HL6 HN6 HF6
            have AG1 : Hid (Calls Tryz.prog 10 #[.slice (some ⟨B, 0, none⟩) len len, .pointer (some ⟨T, 0, none⟩), .int .i64 K1, .pointer (some ⟨O, 0, none⟩), .int .i64 0, .int .i32 0, .int .i32 0, .bool true] w7 fun e w' => e = .returned (.bool true) ∧ Below w7.heap.size w7 w') :=
              agree_not (first := 0) HL7.out HN7.out.ns HO1.out HA1.out (by omega)
            go_wp2_with fail
            refine AG1.out.mono ?_
            rintro e w8 ⟨rfl, hb8⟩
            have HL8 := hide (HL7.out.belowH hb8)
            have HN8 := hide (HN7.out.below hb8)
            clear hb8 AG1 HL7 HN7
            go_wp2_with fail
            refine (mems_obj HL8.out.env HO1.out.ob).mono ?_
            rintro e w9 ⟨⟨a9, c9, rfl, hs9⟩, hb9⟩
            have HS9 := hide hs9
            have HL9 := hide (HL8.out.belowH hb9)
            have HN9 := hide (HN8.out.below hb9)
            clear hs9 hb9 HL8 HN8
            go_wp2_with fail
            refine (names_obj _ HL9.out.env HO1.out.ob HS9.out).mono ?_
            rintro e w10 ⟨rfl, hr10, hb10⟩
            have HR10 := hide hr10
            have HLa := hide (HL9.out.belowH hb10)
            have HNa := hide (HN9.out.below hb10)
            clear hr10 hb10 HL9 HN9 HS9
            go_wp2_with fail
            refine (sort_not _ HLa.out HO1.out HA1.out HR10.out).mono ?_
            rintro e w11 ⟨gp, rfl, hb11⟩
            have HLb := hide (HLa.out.belowH hb11)
            have HNb := hide (HNa.out.below hb11)
            clear hb11 HLa HNa HR10
            go_wp2_with fail
            refine (add_second (first := 0) HLb.out HNb.out HO2.out (by omega)).mono ?_
            rintro e w12 ⟨hlc, ⟨rfl, od2, hd2, hnc⟩ | ⟨⟨aa, rfl⟩, hal2, hnc⟩⟩
            · have HLc := hide hlc
              have HD2 := hide hd2
              have HNc := hide hnc
              have AG2 : Hid (Calls Tryz.prog 10 #[.slice (some ⟨B, 0, none⟩) len len, .pointer (some ⟨T, 0, none⟩), .int .i64 K2, .pointer (some ⟨O, 0, none⟩), .int .i64 0, .int .i32 0, .int .i32 0, .bool false] w12 fun e w' => e = .returned (.bool true) ∧ Below w12.heap.size w12 w') :=
                agree_yes (first := 0) (ks := []) (os_ := []) hlc hnc KZ.nil HO2.out hd2 (by omega)
              clear hlc hd2 hnc HLb HNb
              go_wp2_with fail
              refine AG2.out.mono ?_
              rintro e w13 ⟨rfl, hb13⟩
              have HLd := hide (HLc.out.belowH hb13)
              clear hb13 HLc HNc AG2
              go_wp2
              go_ret
              exact ⟨rfl, HLd.out.out⟩
            · have HLc := hide hlc
              have HA2 := hide hal2
              have HNc := hide hnc
              have AG2 : Hid (Calls Tryz.prog 10 #[.slice (some ⟨B, 0, none⟩) len len, .pointer (some ⟨T, 0, none⟩), .int .i64 K2, .pointer (some ⟨O, 0, none⟩), .int .i64 0, .int .i32 0, .int .i32 0, .bool true] w12 fun e w' => e = .returned (.bool true) ∧ Below w12.heap.size w12 w') :=
                agree_not (first := 0) hlc hnc HO2.out hal2 (by omega)
              clear hlc hal2 hnc HLb HNb
              go_wp2_with fail
              refine AG2.out.mono ?_
              rintro e w13 ⟨rfl, hb13⟩
              have HLd := hide (HLc.out.belowH hb13)
              clear hb13 HLc HNc AG2
              go_wp2
              go_ret
              exact ⟨rfl, HLd.out.out⟩

end Go.Proofs.Qxb6616638aGreatFmt.Two
