/-
  THE WALKS of push and closeAt.
-/
import Derived.Test.Qxb6616638aGreatFmtTape
import Derived.Deep.Cut
namespace Go.Proofs.Qxb6616638aGreatFmt
open Go.RowKit
open Plain
set_option linter.unusedVariables false
set_option maxRecDepth 100000

theorem info21 : ∃ i, Tryz.prog.info? 21 = some i ∧ i.zero = some (.int .i32 0) ∧ i.size = 1 ∧ i.bytes = 4 := by
  have h : (Tryz.prog.info? 21).map (fun i => (i.zero, i.size, i.bytes)) = some (some (.int .i32 0), 1, 4) := by kernel_rfl
  obtain ⟨i, hi, hz⟩ := Option.map_eq_some_iff.1 h
  simp only [Prod.mk.injEq] at hz
  exact ⟨i, hi, hz.1, hz.2.1, hz.2.2⟩
theorem info4 : ∃ i, Tryz.prog.info? 4 = some i ∧ i.zero = some (.bool false) ∧ i.size = 1 ∧ i.bytes = 1 := by
  have h : (Tryz.prog.info? 4).map (fun i => (i.zero, i.size, i.bytes)) = some (some (.bool false), 1, 1) := by kernel_rfl
  obtain ⟨i, hi, hz⟩ := Option.map_eq_some_iff.1 h
  simp only [Prod.mk.injEq] at hz
  exact ⟨i, hi, hz.1, hz.2.1, hz.2.2⟩

variable {w : World} {B0 T : Nat} {v : Nat → Value} {xs : Nat → List Value}

theorem TS.push_below {w1 : World} {i : Nat} {x : Value} {o : Obj} (h : TS w B0 T v xs) (hi : i < 5) (hg : (w.alloc o).grownBy w1 (v i).ownBlock) : Below B0 w (w1.setCell ⟨T, i, none⟩ x) := by
  have hT := h.lt
  have hb := h.base
  refine Below.setCell (p := ⟨T, i, none⟩) (Below.grown ((Below.refl B0 w).alloc (by omega) o) hg (by simp; omega) ?_) hb x
  intro k hk
  exact ((h.own i hi).lt k hk).1

theorem cell_one (w : World) (x : Value) (t : TypeId) : ∀ j u, [x][j]? = some u → (w.alloc (.cells #[x] t)).cell? ((⟨w.heap.size, 0, none⟩ : Addr).add j) = some u := by
  intro j u hj
  match j, hj with
  | 0, hj => simp at hj; subst hj; simp [Addr.add]

theorem TS.keepT {w1 : World} {i : Nat} {o : Obj} (h : TS w B0 T v xs) (hi : i < 5) (hg : (w.alloc o).grownBy w1 (v i).ownBlock) : w1.cell? ⟨T, i, none⟩ = some (v i) ∧ w1.frozen? ⟨T, i, none⟩ = false := by
  have hT := h.lt
  have e : w1.heap[T]? = w.heap[T]? := by
    rw [hg.block T (by simp; omega) (fun e => h.apartT i hi e.symm), Below.heap_alloc w o T hT]
  exact ⟨(World.cell?_of_block (w := w) (a := ⟨T, i, none⟩) e).trans (h.cell i hi), (World.frozen?_of_block (w := w) (a := ⟨T, i, none⟩) e).trans (h.frozen i)⟩

def app (xs : Nat → List Value) (i : Nat) (x : Value) : Nat → List Value := upd xs i (xs i ++ [x])
theorem app_same (xs : Nat → List Value) (i : Nat) (x : Value) : app xs i x i = xs i ++ [x] := upd_same _ _ _
theorem app_other (xs : Nat → List Value) {i j : Nat} (x : Value) (h : j ≠ i) : app xs i x j = xs j := upd_other _ _ h

/-- What push adds. -/
def pushX (xs : Nat → List Value) (st en : Nat) (cl nm : Bool) (pa : Int) : Nat → List Value :=
  app (app (app (app (app xs 0 (.int .i32 st)) 1 (.int .i32 en)) 2 (.bool cl)) 3 (.bool nm)) 4 (.int .i32 pa)

set_option maxHeartbeats 4000000 in
theorem push_any (L st en : Nat) (cl nm : Bool) (pa : Int) (h : TS w B0 T v xs) (hl : ∀ i, i < 5 → (xs i).length = L) (hL : L ≤ 16384) (hst : st ≤ 20000) (hen : en ≤ 20000) (hpa : -1 ≤ pa) (hpa2 : pa ≤ 20000) :
    Calls Tryz.prog 27 #[.pointer (some ⟨T, 0, none⟩), .int .i64 st, .int .i64 en, .bool cl, .bool nm, .int .i64 pa] w fun e w' =>
      e = .returned (.int .i64 L) ∧ (∃ v', TS w' B0 T v' (pushX xs st en cl nm pa)) ∧ Below B0 w w' := by
  obtain ⟨i21, hi21, hz21, hs21, hb21⟩ := info21
  obtain ⟨i4, hi4, hz4, hs4, hb4⟩ := info4
  have HI21 := hide hi21
  have HI4 := hide hi4
  have H0 : Hid (TS w B0 T v xs) := h
  have HL0 : Hid (∀ i, 0 ≤ i → i < 5 → (xs i).length = L) := fun i _ h2 => hl i h2
  have HB0 : Hid (Below B0 w w) := Below.refl _ _
  clear h hl hi21 hi4
  go_enter Tryz.func27, Tryz.ntmps27
  -- slice 0
  have c0 := H0.out.cell 0 (by omega)
  have f0 := H0.out.frozen 0
  have own0 := H0.out.own 0 (by omega)
  have l0 := HL0.out 0 (by omega) (by omega)
  have T0 : T < w.heap.size := H0.out.lt
  have b0 := H0.out.base
  go_wp2_with (at_builtin; refine wpList_append_lies _ rfl _ _ 24 rfl B0 21 i21 (.int .i32 0) 1 4 Tryz.underlying24 HI21.out hz21 hs21 hb21 rfl (by omega) (v 0) (xs 0).length (xs 0) rfl (own0.alloc _) ⟨w.heap.size, 0, none⟩ 1 1 [.int .i32 st] rfl rfl (cell_one _ _ _) ?h1 (by omega) ?h63 ?hby ?hbase (w.heap.size + 1) (by simp) ?_)
  case h1 => intro u hu; simp at hu; subst hu; rfl
  case h63 => unfold maxLen; omega
  case hby => omega
  case hbase => simp; omega
  intro g cap z hown hgrow hat hlt
  obtain ⟨kc, kf⟩ := TS.keepT H0.out (by omega) hgrow
  clear c0 f0
  go_upto_region 2 with (fail)
  have H1 : Hid (TS (z.setCell ⟨T, 0, none⟩ (.slice (some ⟨g, 0, none⟩) (L + 1) cap)) B0 T (upd v 0 (.slice (some ⟨g, 0, none⟩) (L + 1) cap)) (app xs 0 (.int .i32 st))) := H0.out.push (by omega) l0 hown hgrow hat
  have HB1 : Hid (Below B0 w (z.setCell ⟨T, 0, none⟩ (.slice (some ⟨g, 0, none⟩) (L + 1) cap))) := HB0.out.trans (H0.out.push_below (by omega) hgrow)
  have HL1 : Hid (∀ i, 1 ≤ i → i < 5 → (app xs 0 (.int .i32 st) i).length = L) := fun i h1 h2 => by rw [app_other _ _ (by omega)]; exact HL0.out i (by omega) h2
  have HM1 : Hid ((app xs 0 (.int .i32 st) 0).length = L + 1) := by
    show (app xs 0 (.int .i32 st) 0).length = L + 1
    rw [app_same]
    simp [l0]
  generalize z.setCell ⟨T, 0, none⟩ (.slice (some ⟨g, 0, none⟩) (L + 1) cap) = w1 at H1 HB1 ⊢
  generalize upd v 0 (.slice (some ⟨g, 0, none⟩) (L + 1) cap) = v1 at H1
  generalize hxs : app xs 0 (.int .i32 st) = xs1 at H1 HL1 HM1
  have HX1 := hide hxs
  clear hxs own0 l0 T0 b0 hown hgrow hat hlt kc kf H0 HL0 HB0
  -- slice 1
  have c0 := H1.out.cell 1 (by omega)
  have f0 := H1.out.frozen 1
  have own0 := H1.out.own 1 (by omega)
  have l0 := HL1.out 1 (by omega) (by omega)
  have T0 : T < w1.heap.size := H1.out.lt
  have b0 := H1.out.base
  go_wp2_with (at_builtin; refine wpList_append_lies _ rfl _ _ 24 rfl B0 21 i21 (.int .i32 0) 1 4 Tryz.underlying24 HI21.out hz21 hs21 hb21 rfl (by omega) (v1 1) (xs1 1).length (xs1 1) rfl (own0.alloc _) ⟨w1.heap.size, 0, none⟩ 1 1 [.int .i32 en] rfl rfl (cell_one _ _ _) ?h1 (by omega) ?h63 ?hby ?hbase (w1.heap.size + 1) (by simp) ?_)
  case h1 => intro u hu; simp at hu; subst hu; rfl
  case h63 => unfold maxLen; omega
  case hby => omega
  case hbase => simp; omega
  intro g cap z hown hgrow hat hlt
  obtain ⟨kc, kf⟩ := TS.keepT H1.out (by omega) hgrow
  clear c0 f0
  go_upto_region 3 with (fail)
  have H2 : Hid (TS (z.setCell ⟨T, 1, none⟩ (.slice (some ⟨g, 0, none⟩) (L + 1) cap)) B0 T (upd v1 1 (.slice (some ⟨g, 0, none⟩) (L + 1) cap)) (app xs1 1 (.int .i32 en))) := H1.out.push (by omega) l0 hown hgrow hat
  have HB2 : Hid (Below B0 w (z.setCell ⟨T, 1, none⟩ (.slice (some ⟨g, 0, none⟩) (L + 1) cap))) := HB1.out.trans (H1.out.push_below (by omega) hgrow)
  have HL2 : Hid (∀ i, 2 ≤ i → i < 5 → (app xs1 1 (.int .i32 en) i).length = L) := fun i h1 h2 => by rw [app_other _ _ (by omega)]; exact HL1.out i (by omega) h2
  have HM2 : Hid ((app xs1 1 (.int .i32 en) 0).length = L + 1) := by
    show (app xs1 1 (.int .i32 en) 0).length = L + 1
    rw [app_other _ _ (by omega)]
    exact HM1.out
  generalize z.setCell ⟨T, 1, none⟩ (.slice (some ⟨g, 0, none⟩) (L + 1) cap) = w2 at H2 HB2 ⊢
  generalize upd v1 1 (.slice (some ⟨g, 0, none⟩) (L + 1) cap) = v2 at H2
  generalize hxs : app xs1 1 (.int .i32 en) = xs2 at H2 HL2 HM2
  have HX2 := hide hxs
  clear hxs own0 l0 T0 b0 hown hgrow hat hlt kc kf H1 HL1 HB1
  -- slice 2
  have c0 := H2.out.cell 2 (by omega)
  have f0 := H2.out.frozen 2
  have own0 := H2.out.own 2 (by omega)
  have l0 := HL2.out 2 (by omega) (by omega)
  have T0 : T < w2.heap.size := H2.out.lt
  have b0 := H2.out.base
  go_wp2_with (at_builtin; refine wpList_append_lies _ rfl _ _ 25 rfl B0 4 i4 (.bool false) 1 1 Tryz.underlying25 HI4.out hz4 hs4 hb4 rfl (by omega) (v2 2) (xs2 2).length (xs2 2) rfl (own0.alloc _) ⟨w2.heap.size, 0, none⟩ 1 1 [.bool cl] rfl rfl (cell_one _ _ _) ?h1 (by omega) ?h63 ?hby ?hbase (w2.heap.size + 1) (by simp) ?_)
  case h1 => intro u hu; simp at hu; subst hu; rfl
  case h63 => unfold maxLen; omega
  case hby => omega
  case hbase => simp; omega
  intro g cap z hown hgrow hat hlt
  obtain ⟨kc, kf⟩ := TS.keepT H2.out (by omega) hgrow
  clear c0 f0
  go_upto_region 4 with (fail)
  have H3 : Hid (TS (z.setCell ⟨T, 2, none⟩ (.slice (some ⟨g, 0, none⟩) (L + 1) cap)) B0 T (upd v2 2 (.slice (some ⟨g, 0, none⟩) (L + 1) cap)) (app xs2 2 (.bool cl))) := H2.out.push (by omega) l0 hown hgrow hat
  have HB3 : Hid (Below B0 w (z.setCell ⟨T, 2, none⟩ (.slice (some ⟨g, 0, none⟩) (L + 1) cap))) := HB2.out.trans (H2.out.push_below (by omega) hgrow)
  have HL3 : Hid (∀ i, 3 ≤ i → i < 5 → (app xs2 2 (.bool cl) i).length = L) := fun i h1 h2 => by rw [app_other _ _ (by omega)]; exact HL2.out i (by omega) h2
  have HM3 : Hid ((app xs2 2 (.bool cl) 0).length = L + 1) := by
    show (app xs2 2 (.bool cl) 0).length = L + 1
    rw [app_other _ _ (by omega)]
    exact HM2.out
  generalize z.setCell ⟨T, 2, none⟩ (.slice (some ⟨g, 0, none⟩) (L + 1) cap) = w3 at H3 HB3 ⊢
  generalize upd v2 2 (.slice (some ⟨g, 0, none⟩) (L + 1) cap) = v3 at H3
  generalize hxs : app xs2 2 (.bool cl) = xs3 at H3 HL3 HM3
  have HX3 := hide hxs
  clear hxs own0 l0 T0 b0 hown hgrow hat hlt kc kf H2 HL2 HB2
  -- slice 3
  have c0 := H3.out.cell 3 (by omega)
  have f0 := H3.out.frozen 3
  have own0 := H3.out.own 3 (by omega)
  have l0 := HL3.out 3 (by omega) (by omega)
  have T0 : T < w3.heap.size := H3.out.lt
  have b0 := H3.out.base
  go_wp2_with (at_builtin; refine wpList_append_lies _ rfl _ _ 25 rfl B0 4 i4 (.bool false) 1 1 Tryz.underlying25 HI4.out hz4 hs4 hb4 rfl (by omega) (v3 3) (xs3 3).length (xs3 3) rfl (own0.alloc _) ⟨w3.heap.size, 0, none⟩ 1 1 [.bool nm] rfl rfl (cell_one _ _ _) ?h1 (by omega) ?h63 ?hby ?hbase (w3.heap.size + 1) (by simp) ?_)
  case h1 => intro u hu; simp at hu; subst hu; rfl
  case h63 => unfold maxLen; omega
  case hby => omega
  case hbase => simp; omega
  intro g cap z hown hgrow hat hlt
  obtain ⟨kc, kf⟩ := TS.keepT H3.out (by omega) hgrow
  clear c0 f0
  go_upto_region 5 with (fail)
  have H4 : Hid (TS (z.setCell ⟨T, 3, none⟩ (.slice (some ⟨g, 0, none⟩) (L + 1) cap)) B0 T (upd v3 3 (.slice (some ⟨g, 0, none⟩) (L + 1) cap)) (app xs3 3 (.bool nm))) := H3.out.push (by omega) l0 hown hgrow hat
  have HB4 : Hid (Below B0 w (z.setCell ⟨T, 3, none⟩ (.slice (some ⟨g, 0, none⟩) (L + 1) cap))) := HB3.out.trans (H3.out.push_below (by omega) hgrow)
  have HL4 : Hid (∀ i, 4 ≤ i → i < 5 → (app xs3 3 (.bool nm) i).length = L) := fun i h1 h2 => by rw [app_other _ _ (by omega)]; exact HL3.out i (by omega) h2
  have HM4 : Hid ((app xs3 3 (.bool nm) 0).length = L + 1) := by
    show (app xs3 3 (.bool nm) 0).length = L + 1
    rw [app_other _ _ (by omega)]
    exact HM3.out
  generalize z.setCell ⟨T, 3, none⟩ (.slice (some ⟨g, 0, none⟩) (L + 1) cap) = w4 at H4 HB4 ⊢
  generalize upd v3 3 (.slice (some ⟨g, 0, none⟩) (L + 1) cap) = v4 at H4
  generalize hxs : app xs3 3 (.bool nm) = xs4 at H4 HL4 HM4
  have HX4 := hide hxs
  clear hxs own0 l0 T0 b0 hown hgrow hat hlt kc kf H3 HL3 HB3
  -- slice 4
  have c0 := H4.out.cell 4 (by omega)
  have f0 := H4.out.frozen 4
  have own0 := H4.out.own 4 (by omega)
  have l0 := HL4.out 4 (by omega) (by omega)
  have T0 : T < w4.heap.size := H4.out.lt
  have b0 := H4.out.base
  go_wp2_with (at_builtin; refine wpList_append_lies _ rfl _ _ 24 rfl B0 21 i21 (.int .i32 0) 1 4 Tryz.underlying24 HI21.out hz21 hs21 hb21 rfl (by omega) (v4 4) (xs4 4).length (xs4 4) rfl (own0.alloc _) ⟨w4.heap.size, 0, none⟩ 1 1 [.int .i32 pa] rfl rfl (cell_one _ _ _) ?h1 (by omega) ?h63 ?hby ?hbase (w4.heap.size + 1) (by simp) ?_)
  case h1 => intro u hu; simp at hu; subst hu; rfl
  case h63 => unfold maxLen; omega
  case hby => omega
  case hbase => simp; omega
  intro g cap z hown hgrow hat hlt
  obtain ⟨kc, kf⟩ := TS.keepT H4.out (by omega) hgrow
  clear c0 f0
  go_upto_region 6 with (fail)
  have H5 : Hid (TS (z.setCell ⟨T, 4, none⟩ (.slice (some ⟨g, 0, none⟩) (L + 1) cap)) B0 T (upd v4 4 (.slice (some ⟨g, 0, none⟩) (L + 1) cap)) (app xs4 4 (.int .i32 pa))) := H4.out.push (by omega) l0 hown hgrow hat
  have HB5 : Hid (Below B0 w (z.setCell ⟨T, 4, none⟩ (.slice (some ⟨g, 0, none⟩) (L + 1) cap))) := HB4.out.trans (H4.out.push_below (by omega) hgrow)
  have HL5 : Hid (∀ i, 5 ≤ i → i < 5 → (app xs4 4 (.int .i32 pa) i).length = L) := fun i h1 h2 => by rw [app_other _ _ (by omega)]; exact HL4.out i (by omega) h2
  have HM5 : Hid ((app xs4 4 (.int .i32 pa) 0).length = L + 1) := by
    show (app xs4 4 (.int .i32 pa) 0).length = L + 1
    rw [app_other _ _ (by omega)]
    exact HM4.out
  generalize z.setCell ⟨T, 4, none⟩ (.slice (some ⟨g, 0, none⟩) (L + 1) cap) = w5 at H5 HB5 ⊢
  generalize upd v4 4 (.slice (some ⟨g, 0, none⟩) (L + 1) cap) = v5 at H5
  generalize hxs : app xs4 4 (.int .i32 pa) = xs5 at H5 HL5 HM5
  have HX5 := hide hxs
  clear hxs own0 l0 T0 b0 hown hgrow hat hlt kc kf H4 HL4 HB4
  -- the result
  have c0 := H5.out.cell 0 (by omega)
  have own0 := H5.out.own 0 (by omega)
  obtain ⟨g, cap, hv, _, _⟩ := own0.form (by rw [HM5.out]; omega)
  rw [hv, HM5.out] at c0
  clear own0 hv
  go_wp2
  go_ret
  refine ⟨ret_int (by omega), ⟨v5, ?_⟩, HB5.out⟩
  have hx : pushX xs st en cl nm pa = xs5 := by
    rw [← HX5.out, ← HX4.out, ← HX3.out, ← HX2.out, ← HX1.out]
    rfl
  rw [hx]
  exact H5.out

end Go.Proofs.Qxb6616638aGreatFmt
