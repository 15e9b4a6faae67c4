/-
  THE WALK of inOrder.
-/
import Derived.Test.Qxb6616638aGreatFmtAdd5
namespace Go.Proofs.Qxb6616638aGreatFmt
open Go.RowKit Go.Lib
open Go.Sort (grow)
open Plain
set_option linter.unusedVariables false
set_option maxRecDepth 100000

variable {w : World}

namespace Plain
/-- Neighbours in order: all in order. -/
theorem strict_of_next {us : Nat → List Nat} {P : List Nat} (h : ∀ t, t + 1 < P.length → cmpU (us (P.getD t 0)) (us (P.getD (t + 1) 0)) < 0) : StrictP us P := by
  have key : ∀ d i, i + d + 1 < P.length → cmpU (us (P.getD i 0)) (us (P.getD (i + d + 1) 0)) < 0 := by
    intro d
    induction d with
    | zero => intro i hi; exact h i hi
    | succ d ih =>
      intro i hi
      have h1 := ih i (by omega)
      have h2 := h (i + d + 1) (by omega)
      exact cmpU_lt_of (by omega) h2
  unfold StrictP
  rw [List.pairwise_iff_getElem]
  intro i j hi hj hij
  have := key (j - i - 1) i (by omega)
  rw [show i + (j - i - 1) + 1 = j by omega] at this
  simpa [List.getD_eq_getElem?_getD, List.getElem?_eq_getElem hi, List.getElem?_eq_getElem hj] using this
end Plain

/-- An answer that is true only where P holds; memory has but grown. -/
def YesBelow (w : World) (P : Prop) (e : Ending) (w' : World) : Prop := (∃ r : Bool, e = .returned (.bool r) ∧ (r = true → P)) ∧ Below w.heap.size w w'

set_option maxHeartbeats 8000000 in
theorem inOrder_any {O B n cap gk at' : Nat} {bs : Nat → Nat} {es : List Ent} {js : List Nat} {lsE : Nat → List Nat} {k : Nat} (go off c ck kb kc : Nat) (xs : List Nat) (h : KeyEnv w B n cap gk at' bs es js) (ho : Objt bs n es lsE k js)
    (hz : orL bs es js &&& 141289400074368 = 0) (hx : ∀ i ∈ xs, i < js.length) (hxl : xs.length = js.length) (hx4 : 4 ≤ js.length) (hx5 : js.length ≤ 128) (hgo : go < w.heap.size) (hkb : kb < w.heap.size) (hkc : js.length ≤ kc)
    (hrow : ∀ i, i < js.length → w.cell? ⟨go, off + i, none⟩ = some (.int .u64 ((ldE bs es (js.getD i 0) * 65536 + i : Nat) : Int))) (hks : ∀ i, i < js.length → w.cell? ⟨kb, i, none⟩ = some (.int .u8 (xs.getD i 0 : Nat))) :
    Calls Tryz.prog 33 #[.pointer (some ⟨O, 0, none⟩), .slice (some ⟨B, 0, none⟩) n cap, .slice (some ⟨gk, at' * 4, none⟩) js.length ck, .slice (some ⟨go, off, none⟩) js.length c, .slice (some ⟨kb, 0, none⟩) js.length kc] w (YesBelow w (StrictP (fun i => uOf bs es lsE (js.getD i 0)) xs)) := by
  have mixed : Tryz.prog.follows .mixedOrders = true := by kernel_rfl
  have hxi : ∀ i, i < js.length → xs.getD i 0 < js.length := fun i hi => hx _ (by rw [List.getD_eq_getElem?_getD, List.getElem?_eq_getElem (by omega)]; simp)
  have hld : ∀ i, i < js.length → ldE bs es (js.getD i 0) < 281474976710656 := fun i hi => ldE_lt (ho.str i hi) (fun i hi => h.txt.lt i hi)
  have HLC : Hid (∀ a b, a < js.length → b < js.length → ldE bs es (js.getD a 0) < ldE bs es (js.getD b 0) → cmpU (uOf bs es lsE (js.getD a 0)) (uOf bs es lsE (js.getD b 0)) < 0) := lead_cmp ho (fun i hi => h.txt.lt i hi) hz
  have H := hide h
  have HO := hide ho
  have HXI := hide hxi
  have HLD := hide hld
  have HROW := hide hrow
  have HKS := hide hks
  have HXL := hide hxl
  have k0 := hks 0 (by omega)
  have r0 := hrow (xs.getD 0 0) (hxi 0 (by omega))
  have x0l := hxi 0 (by omega)
  have e0 : (0 : Int) < (js.length : Int) := by omega
  have e1 : (xs.getD 0 0 : Int) < (js.length : Int) := by omega
  have e2 : (1 : Int) ≤ (js.length : Int) := by omega
  have e3 : kc ≠ 1 := by omega
  obtain ⟨y0, hy0⟩ : ∃ y0, y0 = xs.getD 0 0 := ⟨_, rfl⟩
  rw [← hy0] at k0 r0 e1 x0l
  obtain ⟨q0, hq0⟩ : ∃ q0, q0 = ldE bs es (js.getD y0 0) * 65536 + y0 := ⟨_, rfl⟩
  rw [← hq0] at r0
  have HY0 := hide hy0
  have HQ0 := hide hq0
  clear h ho hx hxi hld hrow hks hz hy0 hq0 hxl
  go_enter Tryz.func33, Tryz.ntmps33
  go_wp2
  clear k0 r0
  go_loopw [11, 13, 14, 24] (fun v11 _ _ v24 wr => ∃ i p : Nat, v24 = .int .i64 (i : Int) ∧ v11 = .int .u64 (p : Int) ∧ i + 1 ≤ js.length ∧ p = ldE bs es (js.getD (xs.getD i 0) 0) * 65536 + xs.getD i 0 ∧ (∀ t, t < i → cmpU (uOf bs es lsE (js.getD (xs.getD t 0) 0)) (uOf bs es lsE (js.getD (xs.getD (t + 1) 0) 0)) < 0) ∧ Below w.heap.size w wr) (fun _ _ _ v24 _ => js.length - (intOf v24).toNat)
  case atStart => exact ⟨0, q0, rfl, rfl, by omega, by rw [HQ0.out, HY0.out], fun t ht => by omega, Below.refl _ _⟩
  case round =>
    rename World => wr
    obtain ⟨i, p, rfl, rfl, hi, hp, hadj, hbr⟩ := hrel
    have HADJ := hide hadj
    have HBR := hide hbr
    have hsr := hbr.size
    by_cases hil : i + 1 < js.length
    · have d1 : (i : Int) < ((js.length - 1 : Nat) : Int) := by omega
      have d2 : i < js.length - 1 := by omega
      have d3 : (0 : Int) ≤ (i : Int) := by omega
      have hxl := HXI.out i (by omega)
      have hyl := HXI.out (i + 1) hil
      have hcmp := nm_cmp HO.out hxl hyl
      have hKr : KeyEnv wr B n cap gk at' bs es js := H.out.but ⟨hbr.os, hbr.tape, hbr.output, hbr.size, fun k hk _ => hbr.block k hk⟩ (G := w.heap.size) (by have := H.out.lk; omega) (by have := H.out.lB; omega)
      have d4 : wr.cell? ⟨kb, 1 + i, none⟩ = some (.int .u8 (xs.getD (i + 1) 0 : Nat)) := by rw [Nat.add_comm 1 i]; exact (hbr.cell (p := ⟨kb, i + 1, none⟩) hkb).trans (HKS.out (i + 1) hil)
      have d5 := (hbr.cell (p := ⟨go, off + xs.getD (i + 1) 0, none⟩) hgo).trans (HROW.out _ hyl)
      have v1 := HLD.out _ hxl
      have v2 := HLD.out _ hyl
      have hle := HLC.out _ _ hxl hyl
      obtain ⟨x, ex⟩ : ∃ x, x = xs.getD i 0 := ⟨_, rfl⟩
      obtain ⟨y, ey⟩ : ∃ y, y = xs.getD (i + 1) 0 := ⟨_, rfl⟩
      rw [← ex] at hxl hcmp hp v1 hle
      rw [← ey] at hyl hcmp d4 d5 v2 hle
      obtain ⟨q, hq⟩ : ∃ q, q = ldE bs es (js.getD y 0) * 65536 + y := ⟨_, rfl⟩
      rw [← hq] at d5
      have b1 : (x : Int) < (js.length : Int) := by omega
      have b2 : (y : Int) < (js.length : Int) := by omega
      have b3 : (0 : Int) ≤ (x : Int) := by omega
      have b4 : (0 : Int) ≤ (y : Int) := by omega
      have b5 : p < 18446744073709551616 := by omega
      have b6 : q < 18446744073709551616 := by omega
      have b7 : bits .and .u64 (p : Int) 65535 = (x : Int) := by rw [and16_run p b5, show p % 65536 = x by omega]
      have b8 : bits .and .u64 (q : Int) 65535 = (y : Int) := by rw [and16_run q b6, show q % 65536 = y by omega]
      have hpd : p / 65536 = ldE bs es (js.getD x 0) := by omega
      have hqd : q / 65536 = ldE bs es (js.getD y 0) := by omega
      have HP := hide hp
      have HQ := hide hq
      have EX := hide ex
      have EY := hide ey
      have HLE := hide hle
      have HPD := hide hpd
      have HQD := hide hqd
      clear hp hq ex ey hle hadj hpd hqd
      by_cases hl : q / 65536 ≤ p / 65536
      · have g1 : (q : Int) / 65536 ≤ (p : Int) / 65536 := by omega
        have hSg : ∀ q os, KeyEnv (grow (wr.drewN q) os) B n cap gk at' bs es js := fun q os => by
          have hb := grow_below wr q os
          exact hKr.but (G := wr.heap.size) ⟨hb.os, hb.tape, hb.output, hb.size, fun k hk _ => hb.block k hk⟩ (by have := hKr.lk; omega) (by have := hKr.lB; omega)
        have x0 : ∀ q os, (grow (wr.drewN q) os).cell? ⟨gk, at' * 4 + x * 4, none⟩ = some (.int .i32 (js.getD x 0 : Nat)) := fun q os => ((hSg q os).key x hxl).1
        have x1 : ∀ q os, (grow (wr.drewN q) os).cell? ⟨gk, at' * 4 + x * 4 + 1, none⟩ = some (.int .i32 (fr es (js.getD x 0) : Nat)) := fun q os => ((hSg q os).key x hxl).2.1
        have x2 : ∀ q os, (grow (wr.drewN q) os).cell? ⟨gk, at' * 4 + x * 4 + 2, none⟩ = some (.int .i32 (to es (js.getD x 0) : Nat)) := fun q os => ((hSg q os).key x hxl).2.2.1
        have x3 : ∀ q os, (grow (wr.drewN q) os).cell? ⟨gk, at' * 4 + x * 4 + 3, none⟩ = some (.int .i32 (mEnd bs es (js.getD x 0) : Nat)) := fun q os => ((hSg q os).key x hxl).2.2.2
        have y0' : ∀ q os, (grow (wr.drewN q) os).cell? ⟨gk, at' * 4 + y * 4, none⟩ = some (.int .i32 (js.getD y 0 : Nat)) := fun q os => ((hSg q os).key y hyl).1
        have y1 : ∀ q os, (grow (wr.drewN q) os).cell? ⟨gk, at' * 4 + y * 4 + 1, none⟩ = some (.int .i32 (fr es (js.getD y 0) : Nat)) := fun q os => ((hSg q os).key y hyl).2.1
        have y2 : ∀ q os, (grow (wr.drewN q) os).cell? ⟨gk, at' * 4 + y * 4 + 2, none⟩ = some (.int .i32 (to es (js.getD y 0) : Nat)) := fun q os => ((hSg q os).key y hyl).2.2.1
        have y3 : ∀ q os, (grow (wr.drewN q) os).cell? ⟨gk, at' * 4 + y * 4 + 3, none⟩ = some (.int .i32 (mEnd bs es (js.getD y 0) : Nat)) := fun q os => ((hSg q os).key y hyl).2.2.2
        have hnx := hKr.nm x hxl
        have hny := hKr.nm y hyl
        have hcap := hKr.hcap
        have hn := hKr.hn
        have C1 : Hid (∀ q os, Calls Tryz.prog 47 #[.pointer (some ⟨O, 0, none⟩), .slice (some ⟨B, 0, none⟩) n cap, .agg #[.int .i32 (js.getD x 0 : Nat), .int .i32 (fr es (js.getD x 0) : Nat), .int .i32 (to es (js.getD x 0) : Nat), .int .i32 (mEnd bs es (js.getD x 0) : Nat)]] (grow (wr.drewN q) os) fun e w' => e = .returned (.slice (some ⟨B, fr es (js.getD x 0), none⟩) (nmB bs es (js.getD x 0)).length (cap - fr es (js.getD x 0))) ∧ ∃ q' os', w' = grow ((grow (wr.drewN q) os).drewN q') os') := by
          intro q os
          unfold nmB
          rw [bl_length]
          exact name_gr O B n cap _ _ _ _ (by omega) hnx.1 (by omega) (by omega) hcap hn
        have C2 : Hid (∀ q os, Calls Tryz.prog 47 #[.pointer (some ⟨O, 0, none⟩), .slice (some ⟨B, 0, none⟩) n cap, .agg #[.int .i32 (js.getD y 0 : Nat), .int .i32 (fr es (js.getD y 0) : Nat), .int .i32 (to es (js.getD y 0) : Nat), .int .i32 (mEnd bs es (js.getD y 0) : Nat)]] (grow (wr.drewN q) os) fun e w' => e = .returned (.slice (some ⟨B, fr es (js.getD y 0), none⟩) (nmB bs es (js.getD y 0)).length (cap - fr es (js.getD y 0))) ∧ ∃ q' os', w' = grow ((grow (wr.drewN q) os).drewN q') os') := by
          intro q os
          unfold nmB
          rw [bl_length]
          exact name_gr O B n cap _ _ _ _ (by omega) hny.1 (by omega) (by omega) hcap hn
        have C3 : Hid (∀ q os, Calls Tryz.prog 46 #[.slice (some ⟨B, fr es (js.getD x 0), none⟩) (nmB bs es (js.getD x 0)).length (cap - fr es (js.getD x 0)), .slice (some ⟨B, fr es (js.getD y 0), none⟩) (nmB bs es (js.getD y 0)).length (cap - fr es (js.getD y 0))] (grow (wr.drewN q) os) fun e w' => e = .returned (.int .i64 (cmpB (nmB bs es (js.getD x 0)) (nmB bs es (js.getD y 0)))) ∧ ∃ q' os', w' = grow ((grow (wr.drewN q) os).drewN q') os') := by
          intro q os
          have hg : ∀ j i, to es j < n → i < (nmB bs es j).length → (grow (wr.drewN q) os).cell? ⟨B, fr es j + i, none⟩ = some (.int .u8 ((nmB bs es j).getD i 0 : Nat)) := by
            intro j i hj hi
            have hi' := hi
            unfold nmB at hi'
            rw [bl_length] at hi'
            rw [(hSg q os).txt.at _ (by omega)]
            unfold nmB at hi ⊢
            rw [List.getD_eq_getElem?_getD, List.getElem?_eq_getElem hi, bl_get]
            rfl
          have l1 : (nmB bs es (js.getD x 0)).length ≤ 40000 := by unfold nmB; rw [bl_length]; omega
          have l2 : (nmB bs es (js.getD y 0)).length ≤ 40000 := by unfold nmB; rw [bl_length]; omega
          refine (compareUTF16_any (nmB bs es (js.getD x 0)) (nmB bs es (js.getD y 0)) B B _ _ _ _ (grow (wr.drewN q) os) l1 l2 (fun i hi => hg _ i hnx.2 hi) (fun i hi => hg _ i hny.2 hi)).mono ?_
          rintro e w' ⟨he, q', rfl⟩
          exact ⟨he, q', #[], by rw [Go.Sort.grow_empty]⟩
        clear hSg hKr hbr
        rw [hcmp] at C3
        clear hcmp
        generalize (nmB bs es (js.getD x 0)).length = nx at C1 C3
        generalize (nmB bs es (js.getD y 0)).length = ny at C2 C3
        obtain ⟨cc, hcc⟩ : ∃ cc, cc = cmpU (uOf bs es lsE (js.getD x 0)) (uOf bs es lsE (js.getD y 0)) := ⟨_, rfl⟩
        rw [← hcc] at C3
        have HCC := hide hcc
        clear hcc
        generalize mEnd bs es (js.getD x 0) = m1 at *
        generalize mEnd bs es (js.getD y 0) = m2 at *
        generalize fr es (js.getD x 0) = fx at *
        generalize fr es (js.getD y 0) = fy at *
        generalize to es (js.getD x 0) = tx at *
        generalize to es (js.getD y 0) = ty at *
        obtain ⟨jx, hjx⟩ : ∃ jx, jx = js.getD x 0 := ⟨_, rfl⟩
        obtain ⟨jy, hjy⟩ : ∃ jy, jy = js.getD y 0 := ⟨_, rfl⟩
        rw [← hjx] at x0 C1
        rw [← hjy] at y0' C2
        clear hjx hjy
        go_upto_region 6 with (fail)
        refine wp_region_quiet_grown mixed (by kernel_rfl) ?_
        iterate 13 quiet_step (fail)
        quiet_step (exact Calls.grown_of (C1.out _ _))
        iterate 7 quiet_step (fail)
        quiet_step (exact Calls.grown_of (C2.out _ _))
        quiet_step (exact Calls.grown_of (C3.out _ _))
        iterate 2 quiet_step (fail)
        refine wpQuiet_nil ?_
        intro _ hw'
        obtain ⟨⟨nq, osq⟩, hw''⟩ := hw'
        subst hw''
        have HBG : Hid (Below w.heap.size w (grow (wr.drewN nq) osq)) := HBR.out.trans ((grow_below wr nq osq).mono hsr)
        clear x0 x1 x2 x3 y0' y1 y2 y3 C1 C2 C3
        by_cases hneg : cc < 0
        · have g3 : decide ((0 : Int) ≤ cc) = false := by simp; omega
          have g4 : ¬ (0 : Int) ≤ cc := by omega
          have HN : Hid (cmpU (uOf bs es lsE (js.getD x 0)) (uOf bs es lsE (js.getD y 0)) < 0) := by rw [← HCC.out]; exact hneg
          go_wp2
          go_roundw
          case rel =>
            refine ⟨i + 1, q, by go_num, rfl, by omega, by rw [HQ.out, EY.out], fun t ht => ?_, HBG.out⟩
            by_cases e : t = i
            · rw [e, ← EX.out, ← EY.out]; exact HN.out
            · exact HADJ.out t (by omega)
          case measure =>
            show js.length - ((i : Int) + 1).toNat < js.length - ((i : Int)).toNat
            omega
        · have g3 : (0 : Int) ≤ cc := by omega
          go_wp2
          go_ret
          exact ⟨⟨false, rfl, fun h => by cases h⟩, HBG.out⟩
      · have g1 : decide ((q : Int) / 65536 ≤ (p : Int) / 65536) = false := by simp; omega
        have g2 : ¬ (q : Int) / 65536 ≤ (p : Int) / 65536 := by omega
        have hneg : cmpU (uOf bs es lsE (js.getD x 0)) (uOf bs es lsE (js.getD y 0)) < 0 := HLE.out (by rw [← HPD.out, ← HQD.out]; omega)
        have HN := hide hneg
        clear hneg hcmp hbr hKr
        go_upto_region 6 with (fail)
        go_quiet (fail)
        go_wp2
        go_roundw
        case rel =>
          refine ⟨i + 1, q, by go_num, rfl, by omega, by rw [HQ.out, EY.out], fun t ht => ?_, ⟨HBR.out.os, HBR.out.tape, HBR.out.output, HBR.out.size, HBR.out.block⟩⟩
          by_cases e : t = i
          · rw [e, ← EX.out, ← EY.out]; exact HN.out
          · exact HADJ.out t (by omega)
        case measure =>
          show js.length - ((i : Int) + 1).toNat < js.length - ((i : Int)).toNat
          omega
    · have d1 : decide ((i : Int) < ((js.length - 1 : Nat) : Int)) = false := by simp; omega
      have d2 : ¬ i < js.length - 1 := by omega
      clear hbr hp hadj
      go_wp2
      go_ret
      exact ⟨⟨true, rfl, fun _ => strict_of_next (fun t ht => HADJ.out t (by have := HXL.out; omega))⟩, HBR.out⟩

end Go.Proofs.Qxb6616638aGreatFmt
