/-
  THE WALK of sortNames.
-/
import Derived.Test.Qxb6616638aGreatFmtSortN0
namespace Go.Proofs.Qxb6616638aGreatFmt
open Go.RowKit Go.Lib
open Go.Extern.Stop Go.Stop Go.Extern
open Go.Sort (grow)
open Plain
set_option linter.unusedVariables false
set_option maxRecDepth 100000

variable {w : World}

set_option maxHeartbeats 8000000 in
theorem sortNames_any (F : Interp) {O B n cap gk at' : Nat} {bs : Nat → Nat} {es : List Ent} {js : List Nat} {lsE : Nat → List Nat} {k : Nat} (go off c ck : Nat) (is : List Nat) (hF : F.answers w.tape) (h : KeyEnv w B n cap gk at' bs es js) (ho : Objt bs n es lsE k js)
    (his : ∀ i ∈ is, i < js.length) (h0 : 0 < js.length) (hgo : go < w.heap.size) (h4 : gk ≠ go) (h5 : B ≠ go)
    (hrow : ∀ i, i < is.length → w.cell? ⟨go, off + i, none⟩ = some (.int .u64 (is.getD i 0 : Nat)) ∧ w.frozen? ⟨go, off + i, none⟩ = false) (hlen : is.length ≤ 20000) :
    Calls Tryz.prog 35 #[.pointer (some ⟨O, 0, none⟩), .slice (some ⟨B, 0, none⟩) n cap, .slice (some ⟨gk, at' * 4, none⟩) js.length ck, .slice (some ⟨go, off, none⟩) is.length c] w (SortNGives w go off is.length (fun i => uOf bs es lsE (js.getD i 0)) is) := by
  have mixed : Tryz.prog.follows .mixedOrders = true := by kernel_rfl
  obtain ⟨hbb, hbs⟩ := boxed_below w O B n cap gk at' js.length ck
  have hE := h.boxed O ck
  have hrow' : ∀ i, i < is.length → (boxed w O B n cap gk at' js.length ck).cell? ⟨go, off + i, none⟩ = some (.int .u64 (is.getD i 0 : Nat)) ∧ (boxed w O B n cap gk at' js.length ck).frozen? ⟨go, off + i, none⟩ = false :=
    fun i hi => ⟨(hbb.cell (p := ⟨go, off + i, none⟩) hgo).trans (hrow i hi).1, (hbb.frozen (p := ⟨go, off + i, none⟩) hgo).trans (hrow i hi).2⟩
  have hS := sortFunc_any (w := boxed w O B n cap gk at' js.length ck) go off c is hE ho his h0 (by omega) (by omega) (by omega) (by omega) h4 h5 hrow' hlen
  have HS := hide hS
  have HE := hide hE
  have HBB := hide hbb
  have HR := hide hrow
  have HIS := hide his
  have HK := hide h
  clear hS hrow' hE hbb hrow his h
  have hbs' : w.heap.size + 3 ≤ (boxed w O B n cap gk at' js.length ck).heap.size := by omega
  clear hbs
  go_enter Tryz.func35, Tryz.ntmps35
  go_wp2_with fail
  refine HS.out.mono ?_
  rintro e w1 ⟨rfl, is', hp, hs, ht⟩
  have hE1 := HE.out.but ht.but (by omega) (by omega) (by omega) h4 h5
  have hF1 : F.answers w1.tape := by rw [ht.but.tape, HBB.out.tape]; exact hF
  have hT1 := ht.before hgo HBB.out
  have hpl : is'.length = is.length := hp.length_eq
  have his' : ∀ i, i < is'.length → is'.getD i 0 < js.length := by
    intro i hi
    refine HIS.out _ (hp.mem_iff.1 ?_)
    rw [List.getD_eq_getElem?_getD, List.getElem?_eq_getElem hi]
    simp
  have hsz1 := ht.but.size
  have hg1 : go < w1.heap.size := by omega
  have HE1 := hide hE1
  have HT1 := hide hT1
  have HSO := hide hs
  have HP := hide hp
  have HI := hide his'
  clear HS HE ht hs hE1 hT1 hp his' HR HIS
  go_wp2
  go_loopw [9, 10] (fun v9 _ wr => ∃ i : Nat, v9 = .int .i64 (i : Int) ∧ 1 ≤ i ∧ (∀ k, k + 1 < i → k + 1 < is'.length → cmpU (uOf bs es lsE (js.getD (is'.getD k 0) 0)) (uOf bs es lsE (js.getD (is'.getD (k + 1) 0) 0)) ≠ 0) ∧ Below w1.heap.size w1 wr) (fun v9 _ _ => is.length + 1 - (intOf v9).toNat)
  case atStart => exact ⟨1, rfl, Nat.le_refl _, fun k hk _ => by omega, Below.refl _ _⟩
  case round =>
    rename World => wr
    obtain ⟨i, rfl, hi1, hdis, hbr⟩ := hrel
    have HD := hide hdis
    have HBR := hide hbr
    have hsr := hbr.size
    have hEr := HE1.out.below (hbr.mono HE1.out.hbd)
    have hTr := HT1.out.after hg1 hbr
    have HTR := hide hTr
    clear hdis hbr
    by_cases hil : i < is.length
    · have hid : (i : Int) < (is.length : Int) := by omega
      have hid0 : (0 : Int) ≤ (i : Int) := by omega
      have hx := HI.out i (by omega)
      have hy := HI.out (i - 1) (by omega)
      have co0 : wr.cell? ⟨go, off + i, none⟩ = some (.int .u64 (is'.getD i 0 : Nat)) := hTr.cell i hil
      have co1 : wr.cell? ⟨go, off + (i - 1), none⟩ = some (.int .u64 (is'.getD (i - 1) 0 : Nat)) := hTr.cell (i - 1) (by omega)
      have hgr : go < wr.heap.size := by omega
      have hcmp := nm_cmp ho hy hx
      obtain ⟨x, ex⟩ : ∃ x, x = is'.getD i 0 := ⟨_, rfl⟩
      obtain ⟨y, ey⟩ : ∃ y, y = is'.getD (i - 1) 0 := ⟨_, rfl⟩
      rw [← ex] at hx co0 hcmp
      rw [← ey] at hy co1 hcmp
      have EX := hide ex
      have EY := hide ey
      clear ex ey hTr
      obtain ⟨ckk, hck⟩ := hEr.ck
      have hSg : ∀ q os, CmpEnv (grow (wr.drewN q) os) (w.heap.size + 3) w.heap.size (w.heap.size + 1) (w.heap.size + 2) O B n cap gk at' bs es js := fun q os => hEr.below ((grow_below wr q os).mono hEr.hbd)
      have f1 : ∀ q os, (grow (wr.drewN q) os).cell? ⟨w.heap.size, 0, none⟩ = some (.pointer (some ⟨O, 0, none⟩)) := fun q os => (hSg q os).co
      have f2 : ∀ q os, (grow (wr.drewN q) os).cell? ⟨w.heap.size + 1, 0, none⟩ = some (.slice (some ⟨B, 0, none⟩) n cap) := fun q os => (hSg q os).cb
      have f3 : ∀ q os, (grow (wr.drewN q) os).cell? ⟨w.heap.size + 2, 0, none⟩ = some (.slice (some ⟨gk, at' * 4, none⟩) js.length ckk) := fun q os => ((grow_below wr q os).cell (p := ⟨w.heap.size + 2, 0, none⟩) (by show w.heap.size + 2 < _; omega)).trans hck
      have g0 : ∀ q os, (grow (wr.drewN q) os).cell? ⟨go, off + i, none⟩ = some (.int .u64 (x : Int)) := fun q os => ((grow_below wr q os).cell (p := ⟨go, off + i, none⟩) hgr).trans co0
      have g1 : ∀ q os, (grow (wr.drewN q) os).cell? ⟨go, off + (i - 1), none⟩ = some (.int .u64 (y : Int)) := fun q os => ((grow_below wr q os).cell (p := ⟨go, off + (i - 1), none⟩) hgr).trans co1
      have x0 : ∀ q os, (grow (wr.drewN q) os).cell? ⟨gk, at' * 4 + x * 4, none⟩ = some (.int .i32 (js.getD x 0 : Nat)) := fun q os => ((hSg q os).key x hx).1
      have x1 : ∀ q os, (grow (wr.drewN q) os).cell? ⟨gk, at' * 4 + x * 4 + 1, none⟩ = some (.int .i32 (fr es (js.getD x 0) : Nat)) := fun q os => ((hSg q os).key x hx).2.1
      have x2 : ∀ q os, (grow (wr.drewN q) os).cell? ⟨gk, at' * 4 + x * 4 + 2, none⟩ = some (.int .i32 (to es (js.getD x 0) : Nat)) := fun q os => ((hSg q os).key x hx).2.2.1
      have x3 : ∀ q os, (grow (wr.drewN q) os).cell? ⟨gk, at' * 4 + x * 4 + 3, none⟩ = some (.int .i32 (mEnd bs es (js.getD x 0) : Nat)) := fun q os => ((hSg q os).key x hx).2.2.2
      have y0 : ∀ q os, (grow (wr.drewN q) os).cell? ⟨gk, at' * 4 + y * 4, none⟩ = some (.int .i32 (js.getD y 0 : Nat)) := fun q os => ((hSg q os).key y hy).1
      have y1 : ∀ q os, (grow (wr.drewN q) os).cell? ⟨gk, at' * 4 + y * 4 + 1, none⟩ = some (.int .i32 (fr es (js.getD y 0) : Nat)) := fun q os => ((hSg q os).key y hy).2.1
      have y2 : ∀ q os, (grow (wr.drewN q) os).cell? ⟨gk, at' * 4 + y * 4 + 2, none⟩ = some (.int .i32 (to es (js.getD y 0) : Nat)) := fun q os => ((hSg q os).key y hy).2.2.1
      have y3 : ∀ q os, (grow (wr.drewN q) os).cell? ⟨gk, at' * 4 + y * 4 + 3, none⟩ = some (.int .i32 (mEnd bs es (js.getD y 0) : Nat)) := fun q os => ((hSg q os).key y hy).2.2.2
      have hnx := hEr.nm x hx
      have hny := hEr.nm y hy
      have hcap := hEr.hcap
      have hjs := hEr.hjs
      have hn := hEr.hn
      have C1 : Hid (∀ q os, Calls Tryz.prog 47 #[.pointer (some ⟨O, 0, none⟩), .slice (some ⟨B, 0, none⟩) n cap, .agg #[.int .i32 (js.getD x 0 : Nat), .int .i32 (fr es (js.getD x 0) : Nat), .int .i32 (to es (js.getD x 0) : Nat), .int .i32 (mEnd bs es (js.getD x 0) : Nat)]] (grow (wr.drewN q) os) fun e w' => e = .returned (.slice (some ⟨B, fr es (js.getD x 0), none⟩) (nmB bs es (js.getD x 0)).length (cap - fr es (js.getD x 0))) ∧ ∃ q' os', w' = grow ((grow (wr.drewN q) os).drewN q') os') := by
        intro q os
        unfold nmB
        rw [bl_length]
        exact name_gr O B n cap _ _ _ _ (by omega) hnx.1 (by omega) (by omega) hcap hn
      have C2 : Hid (∀ q os, Calls Tryz.prog 47 #[.pointer (some ⟨O, 0, none⟩), .slice (some ⟨B, 0, none⟩) n cap, .agg #[.int .i32 (js.getD y 0 : Nat), .int .i32 (fr es (js.getD y 0) : Nat), .int .i32 (to es (js.getD y 0) : Nat), .int .i32 (mEnd bs es (js.getD y 0) : Nat)]] (grow (wr.drewN q) os) fun e w' => e = .returned (.slice (some ⟨B, fr es (js.getD y 0), none⟩) (nmB bs es (js.getD y 0)).length (cap - fr es (js.getD y 0))) ∧ ∃ q' os', w' = grow ((grow (wr.drewN q) os).drewN q') os') := by
        intro q os
        unfold nmB
        rw [bl_length]
        exact name_gr O B n cap _ _ _ _ (by omega) hny.1 (by omega) (by omega) hcap hn
      have hg : ∀ q os j i, to es j < n → i < (nmB bs es j).length → (grow (wr.drewN q) os).cell? ⟨B, fr es j + i, none⟩ = some (.int .u8 ((nmB bs es j).getD i 0 : Nat)) := by
        intro q os j i hj hi
        have hi' := hi
        unfold nmB at hi'
        rw [bl_length] at hi'
        rw [(hSg q os).txt.at _ (by omega)]
        unfold nmB at hi ⊢
        rw [List.getD_eq_getElem?_getD, List.getElem?_eq_getElem hi, bl_get]
        rfl
      have hlt : ∀ j, to es j < n → ∀ a ∈ nmB bs es j, a < 256 := by
        intro j hj a ha
        obtain ⟨t, ht, rfl⟩ := List.mem_iff_getElem.1 ha
        unfold nmB at ht ⊢
        rw [bl_get]
        rw [bl_length] at ht
        exact hEr.txt.lt _ (by omega)
      have C3 : Hid (∀ q os, Calls Tryz.prog 52 #[.slice (some ⟨B, fr es (js.getD x 0), none⟩) (nmB bs es (js.getD x 0)).length (cap - fr es (js.getD x 0)), .slice (some ⟨B, fr es (js.getD y 0), none⟩) (nmB bs es (js.getD y 0)).length (cap - fr es (js.getD y 0))] (grow (wr.drewN q) os) fun e w' => e = .returned (.bool (decide (nmB bs es (js.getD x 0) = nmB bs es (js.getD y 0)))) ∧ ∃ q' os', w' = grow ((grow (wr.drewN q) os).drewN q') os') := by
        intro q os
        refine (equal_any _ B _ _ _ _ _ _ (fun i hi => hg q os _ i hnx.2 hi) (fun i hi => hg q os _ i hny.2 hi) (hlt _ hnx.2) (hlt _ hny.2)).mono ?_
        rintro e w' ⟨he, rfl⟩
        exact ⟨he, 0, #[], by rw [Go.Sort.grow_empty]; rfl⟩
      have HCV : Hid (∀ q os, (convert 22 9 (.slice (some ⟨B, fr es (js.getD x 0), none⟩) (nmB bs es (js.getD x 0)).length (cap - fr es (js.getD x 0)))).run Tryz.prog (grow (wr.drewN q) os) = .ok (.string (txtOf (nmB bs es (js.getD x 0)))) (grow (wr.drewN q) os)) :=
        fun q os => conv_run _ B _ _ _ (fun i hi => hg q os _ i hnx.2 hi)
      have hFr : F.answers wr.tape := by rw [HBR.out.tape]; exact hF1
      have hdec : decide (nmB bs es (js.getD x 0) = nmB bs es (js.getD y 0)) = decide (cmpU (uOf bs es lsE (js.getD y 0)) (uOf bs es lsE (js.getD x 0)) = 0) := by
        rw [← hcmp]
        by_cases e : nmB bs es (js.getD x 0) = nmB bs es (js.getD y 0)
        · rw [decide_eq_true e, e, cmpB_self]
          rfl
        · rw [decide_eq_false e, decide_eq_false (fun e' => e (cmpB_zero _ _ e').symm)]
      rw [hdec] at C3
      have b1 : (x : Int) < (js.length : Int) := by omega
      have b2 : (y : Int) < (js.length : Int) := by omega
      have b3 : (0 : Int) ≤ (x : Int) := by omega
      have b4 : (0 : Int) ≤ (y : Int) := by omega
      have b5 : (i : Int) - 1 < (is.length : Int) := by omega
      have b6 : (0 : Int) ≤ (i : Int) - 1 := by omega
      have b7 : ((i : Int) - 1).toNat = i - 1 := by omega
      have b9 : (1 : Int) ≤ (i : Int) := by omega
      have b8 : IntKind.i64.wrap ((i : Int) - 1) = (i : Int) - 1 := by rw [IntKind.wrap_i64]; omega
      clear hdec hcmp hSg hck hEr hg hlt
      generalize (nmB bs es (js.getD x 0)).length = nx at *
      generalize (nmB bs es (js.getD y 0)).length = ny at *
      generalize txtOf (nmB bs es (js.getD x 0)) = tx_ at *
      generalize hdd : decide (cmpU (uOf bs es lsE (js.getD y 0)) (uOf bs es lsE (js.getD x 0)) = 0) = dd at *
      have HDD := hide hdd
      clear hdd
      generalize mEnd bs es (js.getD x 0) = m1 at *
      generalize mEnd bs es (js.getD y 0) = m2 at *
      generalize fr es (js.getD x 0) = fx at *
      generalize fr es (js.getD y 0) = fy at *
      generalize to es (js.getD x 0) = tx at *
      generalize to es (js.getD y 0) = ty at *
      obtain ⟨jx, hjx⟩ : ∃ jx, jx = js.getD x 0 := ⟨_, rfl⟩
      obtain ⟨jy, hjy⟩ : ∃ jy, jy = js.getD y 0 := ⟨_, rfl⟩
      rw [← hjx] at x0 C1
      rw [← hjy] at y0 C2
      have HJX := hide hjx
      have HJY := hide hjy
      clear hjx hjy
      go_wp2
      refine wp_region_quiet_grown mixed (by kernel_rfl) ?_
      quiet_step (fail)
      quiet_step (fail)
      quiet_step (fail)
      quiet_step (fail)
      quiet_step (fail)
      quiet_step (fail)
      quiet_step (fail)
      quiet_step (fail)
      quiet_step (fail)
      quiet_step (exact Calls.grown_of (C1.out _ _))
      quiet_step (fail)
      refine wpQuiet_nil ?_
      intro _ hw'
      obtain ⟨⟨nq, osq⟩, hw''⟩ := hw'
      subst hw''
      go_wp2
      obtain ⟨W2, hW2⟩ : ∃ W2, W2 = grow (wr.drewN nq) osq := ⟨_, rfl⟩
      have hc : ∀ q os, grow (W2.drewN q) os = grow (wr.drewN (nq + q)) (osq ++ os) := by
        intro q os
        rw [hW2, show (grow (wr.drewN nq) osq).drewN q = grow ((wr.drewN nq).drewN q) osq from rfl, Go.Sort.grow_grow, World.drewN_drewN]
      have hB2 : Below wr.heap.size wr W2 := by rw [hW2]; exact grow_below wr nq osq
      have k1 : ∀ q os, (grow (W2.drewN q) os).cell? ⟨w.heap.size, 0, none⟩ = some (.pointer (some ⟨O, 0, none⟩)) := fun q os => by rw [hc]; exact f1 _ _
      have k2 : ∀ q os, (grow (W2.drewN q) os).cell? ⟨w.heap.size + 1, 0, none⟩ = some (.slice (some ⟨B, 0, none⟩) n cap) := fun q os => by rw [hc]; exact f2 _ _
      have k3 : ∀ q os, (grow (W2.drewN q) os).cell? ⟨w.heap.size + 2, 0, none⟩ = some (.slice (some ⟨gk, at' * 4, none⟩) js.length ckk) := fun q os => by rw [hc]; exact f3 _ _
      have k4 : ∀ q os, (grow (W2.drewN q) os).cell? ⟨go, off + (i - 1), none⟩ = some (.int .u64 (y : Int)) := fun q os => by rw [hc]; exact g1 _ _
      have z0 : ∀ q os, (grow (W2.drewN q) os).cell? ⟨gk, at' * 4 + y * 4, none⟩ = some (.int .i32 (jy : Int)) := fun q os => by rw [hc]; exact y0 _ _
      have z1 : ∀ q os, (grow (W2.drewN q) os).cell? ⟨gk, at' * 4 + y * 4 + 1, none⟩ = some (.int .i32 (fy : Int)) := fun q os => by rw [hc]; exact y1 _ _
      have z2 : ∀ q os, (grow (W2.drewN q) os).cell? ⟨gk, at' * 4 + y * 4 + 2, none⟩ = some (.int .i32 (ty : Int)) := fun q os => by rw [hc]; exact y2 _ _
      have z3 : ∀ q os, (grow (W2.drewN q) os).cell? ⟨gk, at' * 4 + y * 4 + 3, none⟩ = some (.int .i32 (m2 : Int)) := fun q os => by rw [hc]; exact y3 _ _
      have D2 : Hid (∀ q os, Calls Tryz.prog 47 #[.pointer (some ⟨O, 0, none⟩), .slice (some ⟨B, 0, none⟩) n cap, .agg #[.int .i32 (jy : Int), .int .i32 (fy : Int), .int .i32 (ty : Int), .int .i32 (m2 : Int)]] (grow (W2.drewN q) os) fun e w' => e = .returned (.slice (some ⟨B, fy, none⟩) ny (cap - fy)) ∧ ∃ q' os', w' = grow ((grow (W2.drewN q) os).drewN q') os') := by
        intro q os
        rw [hc]
        exact C2.out _ _
      have D3 : Hid (∀ q os, Calls Tryz.prog 52 #[.slice (some ⟨B, fx, none⟩) nx (cap - fx), .slice (some ⟨B, fy, none⟩) ny (cap - fy)] (grow (W2.drewN q) os) fun e w' => e = .returned (.bool dd) ∧ ∃ q' os', w' = grow ((grow (W2.drewN q) os).drewN q') os') := by
        intro q os
        rw [hc]
        exact C3.out _ _
      have DV : Hid (∀ q os, (convert 22 9 (.slice (some ⟨B, fx, none⟩) nx (cap - fx))).run Tryz.prog (grow (W2.drewN q) os) = .ok (.string tx_) (grow (W2.drewN q) os)) := by
        intro q os
        rw [hc]
        exact HCV.out _ _
      rw [← hW2]
      have HB2 := hide hB2
      have hF2 : F.answers W2.tape := by rw [hB2.tape]; exact hFr
      clear hc hW2 hB2 f1 f2 f3 g0 g1 x0 x1 x2 x3 y0 y1 y2 y3 C1 C2 C3 HCV co0 co1
      refine wp_region_quiet_grown mixed (by kernel_rfl) ?_
      quiet_step (fail)
      quiet_step (fail)
      quiet_step (fail)
      quiet_step (fail)
      quiet_step (fail)
      quiet_step (fail)
      quiet_step (fail)
      quiet_step (fail)
      quiet_step (fail)
      quiet_step (fail)
      quiet_step (fail)
      quiet_step (exact Calls.grown_of (D2.out _ _))
      quiet_step (exact Calls.grown_of (D3.out _ _))
      refine wpQuiet_nil ?_
      intro _ hw'
      obtain ⟨⟨nq2, osq2⟩, hw''⟩ := hw'
      subst hw''
      have HB3 : Hid (Below wr.heap.size wr (grow (W2.drewN nq2) osq2)) := HB2.out.trans ((grow_below W2 nq2 osq2).mono HB2.out.size)
      have dv := DV.out nq2 osq2
      have HF3 : Hid (F.answers (grow (W2.drewN nq2) osq2).tape) := hF2
      obtain ⟨W3, hW3⟩ : ∃ W3, W3 = grow (W2.drewN nq2) osq2 := ⟨_, rfl⟩
      rw [← hW3] at HB3 dv HF3
      rw [← hW3]
      clear hW3 k1 k2 k3 k4 z0 z1 z2 z3 D2 D3 DV
      have hs3 := HB3.out.size
      cases dd with
      | true =>
        go_wp2_with fail
        refine (namedTwice_any F tx_ W3 HF3.out).mono ?_
        rintro e w5 ⟨a, rfl, hb5⟩
        go_wp2
        go_ret
        refine ⟨is', HP.out, HTR.out.after hgr (HB3.out.trans (hb5.mono hs3)), .inr ⟨⟨a, rfl⟩, i - 1, by omega, ?_⟩⟩
        have e1 := of_decide_eq_true HDD.out
        rw [EX.out, EY.out] at e1
        rw [show i - 1 + 1 = i by omega]
        exact e1
      | false =>
        go_wp2
        go_roundw
        case rel =>
          refine ⟨i + 1, by go_num, by omega, ?_, HBR.out.trans (HB3.out.mono hsr)⟩
          intro k hk hk'
          by_cases e : k + 1 < i
          · exact HD.out k e hk'
          · have ek : k = i - 1 := by omega
            subst ek
            have e1 := of_decide_eq_false HDD.out
            rw [EX.out, EY.out] at e1
            rw [show i - 1 + 1 = i by omega]
            exact e1
        case measure =>
          show is.length + 1 - ((i : Int) + 1).toNat < is.length + 1 - ((i : Int)).toNat
          omega
    · have hid : decide ((i : Int) < (is.length : Int)) = false := by simp; omega
      go_wp2
      go_ret
      exact ⟨is', HP.out, HTR.out, .inl ⟨rfl, StrictP.of _ HSO.out (fun k hk => HD.out k (by omega) hk)⟩⟩

end Go.Proofs.Qxb6616638aGreatFmt
