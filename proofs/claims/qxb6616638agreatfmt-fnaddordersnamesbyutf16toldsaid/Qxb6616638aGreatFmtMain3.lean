/-
  THE WALK of FnAddOrdersNamesByUTF16.
-/
import Derived.Test.Qxb6616638aGreatFmtMain0
namespace Go.Proofs.Qxb6616638aGreatFmt
open Go.RowKit
open Go.Extern.Stop Go.Stop Go.Extern
open Plain
set_option linter.unusedVariables false
set_option maxRecDepth 100000

variable {w : World}

set_option maxHeartbeats 8000000 in
theorem core3 (F : Interp) (x : Addr) (len cap : Nat) (zs : List Int) (k : Int) (hF : F.answers w.tape) (h64 : len ≤ 16383) (hlc : len ≤ cap) (hz : zs.length = cap) (hc : ∀ i, i < zs.length → w.cell? (x.add i) = some (.int .u8 (zs.getD i 0))) (hwf : ∀ n ∈ zs, (Lit.int .u8 n).wf = true) :
    Calls Tryz.prog 3 #[.slice (some x) len cap, .int .i64 k] w fun e w' => e = .returned (.bool true) ∧ Below w.heap.size w w' := by
  obtain ⟨W1, W2, A, hmk, hcp, htx, hsz, hbel⟩ := copied x len cap zs w h64 hlc hz hc hwf
  have hnil := fun (w : World) => run_neq_slice_nil_any (P := Tryz.prog) w 22 5 (some x) len cap 0 0 Tryz.underlying22
  have h1 : decide ((16383 : Int) < (len : Int)) = false := by simp; omega
  have h1' : ¬ (16383 : Int) < (len : Int) := by omega
  have HTX := hide htx
  have HBE := hide hbel
  have hF2 : F.answers W2.tape := by rw [hbel.tape]; exact hF
  clear hc hwf hz htx hbel
  obtain ⟨B, hBe⟩ : ∃ B, B = w.heap.size := ⟨_, rfl⟩
  have HBW := hide hBe
  rw [← hBe] at hmk hcp HTX hsz
  clear hBe
  go_enter Tryz.func3, Tryz.ntmps3
  go_wp2_with fail
  refine (zzBytes5_yes _ len cap k (by omega) _).mono ?_
  rintro e w' ⟨rfl, hw⟩
  have hw := hw.symm
  subst hw
  go_wp2_with fail
  refine (zzBuild_any (cap := len) W2 h64 HTX.out hsz).mono ?_
  rintro e w3 ⟨hb3, v, ok, rfl, hone, hok⟩
  have o0 := hone 0 (by omega)
  have o1 := hone 1 (by omega)
  have o2 := hone 2 (by omega)
  have o3 := hone 3 (by omega)
  have o4 := hone 4 (by omega)
  have st0 := fun (a : Addr) (w : World) (m : Mode) => run_store Tryz.prog w a (v 0) m o0
  have st1 := fun (a : Addr) (w : World) (m : Mode) => run_store Tryz.prog w a (v 1) m o1
  have st2 := fun (a : Addr) (w : World) (m : Mode) => run_store Tryz.prog w a (v 2) m o2
  have st3 := fun (a : Addr) (w : World) (m : Mode) => run_store Tryz.prog w a (v 3) m o3
  have st4 := fun (a : Addr) (w : World) (m : Mode) => run_store Tryz.prog w a (v 4) m o4
  have HB3 := hide hb3
  have HOK := hide hok
  clear hb3 hone hok
  go_upto_region 10 with (fail)
  obtain ⟨w4, hw4⟩ : ∃ w4, w4 = w3.alloc (.cells #[v 0, v 1, v 2, v 3, v 4] 27) := ⟨_, rfl⟩
  obtain ⟨T, hTe⟩ : ∃ T, T = w3.heap.size := ⟨_, rfl⟩
  have hb4 : Below w3.heap.size w3 w4 := by rw [hw4]; exact (Below.refl _ _).alloc (Nat.le_refl _) _
  have tc : ∀ i, i < 5 → w4.cell? ⟨T, i, none⟩ = some (v i) := by
    intro i hi
    rw [hw4, hTe, World.cell?_alloc_new]
    rcases (show i = 0 ∨ i = 1 ∨ i = 2 ∨ i = 3 ∨ i = 4 by omega) with rfl | rfl | rfl | rfl | rfl <;> rfl
  have hs4 : T < w4.heap.size := World.block_lt_of_cell? _ _ (tc 0 (by omega))
  have hB24 : Below W2.heap.size W2 w4 := HB3.out.trans (hb4.mono HB3.out.size)
  have HB24 := hide hB24
  have HW4 : Hid (Below w.heap.size w w4) := HBE.out.trans (hB24.mono HBE.out.size)
  have hs24 := hB24.size
  have hs34 := HB3.out.size
  have HTC := hide tc
  have HB34 := hide hb4
  rw [← hw4, ← hTe]
  clear hw4 hTe tc hb4 hB24 st0 st1 st2 st3 st4 hmk hcp hnil
  cases ok with
  | false =>
    go_wp2
    go_ret
    exact ⟨rfl, HW4.out⟩
  | true =>
    obtain ⟨es, h5, hbu⟩ := HOK.out rfl
    have hln := hbu.len
    by_cases he : es.length = 0
    · obtain ⟨a0, l0, c0, e0⟩ := (h5 0 (by omega)).isSlice
      have el0 : l0 = 0 := by
        rcases (h5 0 (by omega)).2 with ⟨h, h'⟩ | ⟨_, _, _, h, _⟩
        · rw [h] at e0; injection e0 with _ e _; omega
        · rw [h] at e0; injection e0 with _ e _; omega
      have t0 : w4.cell? ⟨T, 0, none⟩ = some (.slice a0 0 c0) := by rw [HTC.out 0 (by omega), e0, el0]
      clear h5 e0 el0 he HOK
      go_wp2_with fail
      refine (isObject_none _ T a0 c0 k t0).mono ?_
      rintro e w' ⟨rfl, hw⟩
      have hw := hw.symm
      subst hw
      go_wp2
      go_ret
      exact ⟨rfl, HW4.out⟩
    · obtain ⟨g, cp, hTR⟩ := TR.of (T := T) (bd := w4.heap.size) (fun i hi => ownsRow_below (h5 i hi) HB34.out) (by omega) HTC.out (Nat.le_refl _)
      have HTR := hide hTR
      have HBU := hide hbu
      have HTX4 : Hid (Txt w4 B len A) := HTX.out.below HB24.out hsz
      clear h5 HOK hTR hbu he
      go_wp2_with fail
      refine (isObject_any B len len A k HTR.out h64 HTX4.out HBU.out).mono ?_
      rintro e w' ⟨⟨r, rfl, hr⟩, hw⟩
      have hw := hw.symm
      subst hw
      cases r with
      | false =>
        go_wp2
        go_ret
        exact ⟨rfl, HW4.out⟩
      | true =>
        obtain ⟨K, rfl, hK, hcl, hst⟩ := hr rfl
        obtain ⟨lsE, hls⟩ := ls_ex A es
        obtain ⟨js, hen, hch, hobj⟩ := obj_of HBU.out hK hcl hst hls
        have t0 := HTR.out.cell 0 (by omega)
        have t1 := HTR.out.cell 1 (by omega)
        have HCH := hide hch
        have HOBJ := hide hobj
        clear hls hch hobj hcl hst hr
        go_wp2_with fail
        refine (newTape_any (cp 0) (cp 1) HTR.out (Nat.le_refl _) (by omega)).mono ?_
        rintro e w5 ⟨⟨D, rfl, hNT⟩, hb5⟩
        have HNT := hide hNT
        have HB5 := hide hb5
        have hs5 := hb5.size
        clear hNT hb5 t0 t1
        go_upto_region 14 with (refine wpList_names_alloc2 rfl rfl ?_; intro w6 hnb hfz)
        have HTX5 : Txt w5 B len A := HTX4.out.below HB5.out (by omega)
        have hAE := fresh_env HNT.out HTX5 (by omega) h64 (Nat.le_refl len) HBU.out hK hen HCH.out hnb hfz
        have hb6 := hnb.below
        have hs6 := hb6.size
        have hF6 : F.answers w6.tape := by rw [hb6.tape, HB5.out.tape, HB24.out.tape]; exact hF2
        have hADD := namesAdd_any (w := w6) B len len D K hs6 (add_fresh F w5.heap.size w5.heap.size w5.heap.size D B len len K (at_ es K).en A es js lsE hF6 hAE HOBJ.out)
        have HADD := hide hADD
        have HB6 := hide hb6
        clear hAE hADD hnb hfz hb6 HTX5
        obtain ⟨O, hO⟩ : ∃ O, O = w5.heap.size := ⟨_, rfl⟩
        rw [← hO] at HADD HB6
        have hOs : w4.heap.size ≤ O := by omega
        rw [← hO]
        clear hO
        go_wp2_with fail
        refine HADD.out.mono ?_
        rintro e w7 ⟨hlow, hres⟩
        have hb47 : Below w4.heap.size w4 w7 := HB5.out.trans ((HB6.out.mono hOs).trans (hlow.mono hOs))
        have hEnv : Env w7 w4.heap.size B len len T A es g cp := ⟨HTR.out.below hb47, HTX4.out.below hb47 (by omega), by omega, hb47.size, HBU.out, h64, Nat.le_refl _⟩
        have HB47 := hide hb47
        have HENV := hide hEnv
        have hW7 : Below w.heap.size w w7 := HW4.out.trans (hb47.mono HW4.out.size)
        have HW7 := hide hW7
        have hs7 := hW7.size
        clear hlow hb47 hEnv hW7 HADD
        rcases hres with ⟨rfl, od, fk, fo, s1, s2, s3, s4, s5⟩ | ⟨⟨aa, rfl⟩, hal, fk, fo, s3⟩
        · have S1 := hide s1
          have S2 := hide s2
          have S3 : Hid (NR w7 w7.heap.size O (0 + js.length) fk fo) := s3
          have S4 := hide s4
          have S5 := hide s5
          clear s1 s2 s3 s4 s5
          go_wp2_with fail
          refine (agrees_ok w7.heap.size O 0 od fk fo HENV.out HOBJ.out S1.out S2.out S3.out (Nat.le_refl _) (by omega) S4.out (fun i hi => ?_) (fun i hi => ?_) (fun i hi => ?_) (fun i hi => ?_)).mono ?_
          · rw [S5.out i 0 hi (by omega)]; rfl
          · rw [S5.out i 1 hi (by omega)]; rfl
          · rw [S5.out i 2 hi (by omega)]
            have hst := (HOBJ.out.str i hi).1
            show (((at_ es (js.getD i 0)).en - 1 : Nat) : Int) = _
            omega
          · rw [S5.out i 3 hi (by omega)]; rfl
          rintro e w8 ⟨rfl, hb8⟩
          go_wp2
          go_ret
          exact ⟨rfl, HW7.out.trans (hb8.mono hs7)⟩
        · have HAL := hide hal
          have S3 := hide s3
          clear hal s3
          go_wp2_with fail
          refine (agrees_no w7.heap.size O 0 fk fo HENV.out HOBJ.out HAL.out S3.out (Nat.le_refl _) (by omega)).mono ?_
          rintro e w8 ⟨rfl, hb8⟩
          go_wp2
          go_ret
          exact ⟨rfl, HW7.out.trans (hb8.mono hs7)⟩

end Go.Proofs.Qxb6616638aGreatFmt
