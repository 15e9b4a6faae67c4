/-
  THE NAMES READ: the walks of ZZNamesOrder, ZZNamesEnd, ZZNamesKeys.
-/
import Derived.Test.Qxb6616638aGreatFmtOrdAt
namespace Go.Proofs.Qxb6616638aGreatFmt
open Go.RowKit
open Plain
set_option linter.unusedVariables false
set_option maxRecDepth 100000

/-- THE NAMES, READ: nk keys of four numbers, as many places in order. -/
structure NR (w : World) (bd O nk : Nat) (fk : Nat → Nat → Int) (fo : Nat → Nat) : Prop where
  ltO : O < bd
  keys : ∃ ak ck gk, w.cell? ⟨O, 0, none⟩ = some (.slice ak nk ck) ∧ (0 < nk → ak = some ⟨gk, 0, none⟩ ∧ gk < bd) ∧ ∀ i f, i < nk → f < 4 → w.cell? ⟨gk, i * 4 + f, none⟩ = some (.int .i32 (fk i f))
  order : ∃ a c, w.cell? ⟨O, 1, none⟩ = some (.slice a nk c) ∧ Sl w bd (.slice a nk c) nk (fun i => .int .u64 (fo i : Nat))

variable {w : World} {bd O nk : Nat} {fk : Nat → Nat → Int} {fo : Nat → Nat}

theorem NR.below {w' : World} (h : NR w bd O nk fk fo) (hb : Below bd w w') : NR w' bd O nk fk fo := by
  refine ⟨h.ltO, ?_, ?_⟩
  · obtain ⟨ak, ck, gk, e1, e2, e3⟩ := h.keys
    exact ⟨ak, ck, gk, (hb.cell (p := ⟨O, 0, none⟩) h.ltO).trans e1, e2, fun i f hi hf => (hb.cell (p := ⟨gk, i * 4 + f, none⟩) (e2 (by omega)).2).trans (e3 i f hi hf)⟩
  · obtain ⟨a, c, e1, e2⟩ := h.order
    exact ⟨a, c, (hb.cell (p := ⟨O, 1, none⟩) h.ltO).trans e1, e2.below hb⟩

theorem order_any (h : NR w bd O nk fk fo) : Calls Tryz.prog 15 #[.pointer (some ⟨O, 0, none⟩)] w fun e w' => (∃ a c, e = .returned (.slice a nk c) ∧ Sl w bd (.slice a nk c) nk (fun i => .int .u64 (fo i : Nat))) ∧ w' = w := by
  obtain ⟨a, c, e1, e2⟩ := h.order
  have HS := hide e2
  clear e2 h
  go_enter Tryz.func15, Tryz.ntmps15
  go_wp2
  go_ret
  exact ⟨⟨a, c, rfl, HS.out⟩, rfl⟩

theorem endm_any (h : NR w bd O nk fk fo) (hn : nk ≤ 1000000) : Calls Tryz.prog 36 #[.pointer (some ⟨O, 0, none⟩)] w fun e w' => e = .returned (.int .i32 (nk : Int)) ∧ w' = w := by
  obtain ⟨a, c, e1, e2⟩ := h.order
  have HS := hide e2
  clear e2 h
  go_enter Tryz.func36, Tryz.ntmps36
  go_wp2
  go_ret
  exact ⟨ret_int (by rfl), rfl⟩

theorem end_any (h : NR w bd O nk fk fo) (hn : nk ≤ 1000000) : Calls Tryz.prog 22 #[.pointer (some ⟨O, 0, none⟩)] w fun e w' => e = .returned (.int .i32 (nk : Int)) ∧ w' = w := by
  go_enter Tryz.func22, Tryz.ntmps22
  go_wp2_with fail
  refine (endm_any h hn).mono ?_
  rintro e w' ⟨rfl, rfl⟩
  go_wp2
  go_ret
  exact ⟨rfl, rfl⟩

theorem row_step {w : World} {G nk i : Nat} {f : Nat → Int} {v : Int} (h : Row (w.setCell ⟨G, i, none⟩ (.int .i32 v)) G nk (upd (fun x => .int .i32 (if x < i then f x else 0)) i (.int .i32 v))) (hv : f i = v) : Row (w.setCell ⟨G, i, none⟩ (.int .i32 v)) G nk (fun x => .int .i32 (if x < i + 1 then f x else 0)) := by
  refine h.congr (fun x hx => ?_)
  by_cases e : x = i
  · subst e
    rw [upd_same, if_pos (by omega), hv]
  · rw [upd_other _ _ e]
    by_cases e2 : x < i
    · simp [e2, show x < i + 1 by omega]
    · simp [e2, show ¬ x < i + 1 by omega]

def KeysGives (w : World) (nk : Nat) (fk : Nat → Nat → Int) (e : Ending) (w' : World) : Prop :=
  ∃ g0 g1 g2 g3, e = .returned (.tuple #[.slice (some ⟨g0, 0, none⟩) nk nk, .slice (some ⟨g1, 0, none⟩) nk nk, .slice (some ⟨g2, 0, none⟩) nk nk, .slice (some ⟨g3, 0, none⟩) nk nk]) ∧
    Row w' g0 nk (fun i => .int .i32 (fk i 0)) ∧ Row w' g1 nk (fun i => .int .i32 (fk i 1)) ∧ Row w' g2 nk (fun i => .int .i32 (fk i 2)) ∧ Row w' g3 nk (fun i => .int .i32 (fk i 3)) ∧ Below w.heap.size w w'

set_option maxHeartbeats 4000000 in
theorem keys_any (h : NR w bd O nk fk fo) (hn : nk ≤ 1000000) (hbd : bd ≤ w.heap.size) : Calls Tryz.prog 16 #[.pointer (some ⟨O, 0, none⟩)] w (KeysGives w nk fk) := by
  obtain ⟨i21, hi21, hz21, hs21, hb21⟩ := info21
  obtain ⟨ak, ck, gk, e1, e2, e3⟩ := h.keys
  obtain ⟨W1, mk1, r1, b1⟩ := make_row w 24 21 i21 (.int .i32 0) Tryz.underlying24 hi21 hz21 hs21 (by omega) rfl nk hn
  obtain ⟨W2, mk2, r2, b2⟩ := make_row W1 24 21 i21 (.int .i32 0) Tryz.underlying24 hi21 hz21 hs21 (by omega) rfl nk hn
  obtain ⟨W3, mk3, r3, b3⟩ := make_row W2 24 21 i21 (.int .i32 0) Tryz.underlying24 hi21 hz21 hs21 (by omega) rfl nk hn
  obtain ⟨W4, mk4, r4, b4⟩ := make_row W3 24 21 i21 (.int .i32 0) Tryz.underlying24 hi21 hz21 hs21 (by omega) rfl nk hn
  have l1 := r1.lt
  have l2 := r2.lt
  have l3 := r3.lt
  have l4 := r4.lt
  have hO := h.ltO
  have d1 := (b1.cell (p := ⟨O, 0, none⟩) (show O < w.heap.size by omega)).trans e1
  have d2 := (b2.cell (p := ⟨O, 0, none⟩) (show O < W1.heap.size by omega)).trans d1
  have d3 := (b3.cell (p := ⟨O, 0, none⟩) (show O < W2.heap.size by omega)).trans d2
  have d4 := (b4.cell (p := ⟨O, 0, none⟩) (show O < W3.heap.size by omega)).trans d3
  have HR1 := hide (((r1.below b2 l1).below b3 (by omega)).below b4 (by omega))
  have HR2 := hide ((r2.below b3 l2).below b4 (by omega))
  have HR3 := hide (r3.below b4 l3)
  have HR4 := hide r4
  have HB4 : Hid (Below w.heap.size w W4) := ((b1.trans (b2.mono (by omega))).trans (b3.mono (by omega))).trans (b4.mono (by omega))
  have E2 := hide e2
  have E3 := hide e3
  clear h hi21 hz21 hs21 hb21 r1 r2 r3 r4 b1 b2 b3 b4 e2 e3
  go_enter Tryz.func16, Tryz.ntmps16
  go_wp2
  go_loopw [41, 10, 11] (fun t v10 v11 wr => ∃ i : Nat, t = .int .i64 i ∧ i ≤ nk ∧ Row wr w.heap.size nk (fun x => .int .i32 (if x < i then fk x 0 else 0)) ∧ Row wr W1.heap.size nk (fun x => .int .i32 (if x < i then fk x 1 else 0)) ∧ Row wr W2.heap.size nk (fun x => .int .i32 (if x < i then fk x 2 else 0)) ∧ Row wr W3.heap.size nk (fun x => .int .i32 (if x < i then fk x 3 else 0)) ∧ Below w.heap.size w wr) (fun t _ _ _ => 2000000 - (intOf t).toNat)
  case atStart => exact ⟨0, rfl, Nat.zero_le _, by simpa using HR1.out, by simpa using HR2.out, by simpa using HR3.out, by simpa using HR4.out, HB4.out⟩
  case round =>
    rename World => wx
    obtain ⟨i, rfl, hi, q1, q2, q3, q4, hb⟩ := hrel
    have Q1 := hide q1; have Q2 := hide q2; have Q3 := hide q3; have Q4 := hide q4
    have HB := hide hb
    have ql := q4.lt
    clear q1 q2 q3 q4 hb
    by_cases hlt : i < nk
    · have hli : (i : Int) < (nk : Int) := by omega
      have hli0 : (0 : Int) ≤ (i : Int) := by omega
      obtain ⟨ea, eb⟩ := E2.out (by omega)
      subst ea
      have k0 := (HB.out.cell (p := ⟨gk, i * 4 + 0, none⟩) (show gk < w.heap.size by omega)).trans (E3.out i 0 hlt (by omega))
      rw [Nat.add_zero] at k0
      have k1 := (HB.out.cell (p := ⟨gk, i * 4 + 1, none⟩) (show gk < w.heap.size by omega)).trans (E3.out i 1 hlt (by omega))
      have k2 := (HB.out.cell (p := ⟨gk, i * 4 + 2, none⟩) (show gk < w.heap.size by omega)).trans (E3.out i 2 hlt (by omega))
      have k3 := (HB.out.cell (p := ⟨gk, i * 4 + 3, none⟩) (show gk < w.heap.size by omega)).trans (E3.out i 3 hlt (by omega))
      generalize hf0 : fk i 0 = f0 at k0
      generalize hf1 : fk i 1 = f1 at k1
      generalize hf2 : fk i 2 = f2 at k2
      generalize hf3 : fk i 3 = f3 at k3
      have F0 := hide hf0; have F1 := hide hf1; have F2 := hide hf2; have F3 := hide hf3
      have c0 := Q1.out.cell i hlt
      have c1 := Q2.out.cell i hlt
      have c2 := Q3.out.cell i hlt
      have c3 := Q4.out.cell i hlt
      have z0 := Q1.out.free i hlt
      have z1 := Q2.out.free i hlt
      have z2 := Q3.out.free i hlt
      have z3 := Q4.out.free i hlt
      simp only [Nat.lt_irrefl, if_false] at c0 c1 c2 c3
      clear hf0 hf1 hf2 hf3
      go_upto_region 8 with (fail)
      have cy : ∀ j u, [Value.int .i32 f0, .int .i32 f1, .int .i32 f2, .int .i32 f3][j]? = some u → (wx.alloc (.cells #[.int .i32 f0, .int .i32 f1, .int .i32 f2, .int .i32 f3] 78)).cell? ⟨wx.heap.size, j, none⟩ = some u := by
        intro j u hu
        rw [World.cell?_alloc_new]
        simpa using hu
      have y0 := cy 0 _ rfl
      have y1 := cy 1 _ rfl
      have y2 := cy 2 _ rfl
      have y3 := cy 3 _ rfl
      have by0 : Below wx.heap.size wx (wx.alloc (.cells #[.int .i32 f0, .int .i32 f1, .int .i32 f2, .int .i32 f3] 78)) := (Below.refl _ _).alloc (Nat.le_refl _) _
      clear cy
      have P1 := hide (Q1.out.below by0 Q1.out.lt)
      have P2 := hide (Q2.out.below by0 Q2.out.lt)
      have P3 := hide (Q3.out.below by0 Q3.out.lt)
      have P4 := hide (Q4.out.below by0 Q4.out.lt)
      have BY := hide by0
      clear c0 c1 c2 c3 z0 z1 z2 z3 by0 k0 k1 k2 k3
      have c0 := P1.out.cell i hlt
      have c1 := P2.out.cell i hlt
      have c2 := P3.out.cell i hlt
      have c3 := P4.out.cell i hlt
      have z0 := P1.out.free i hlt
      have z1 := P2.out.free i hlt
      have z2 := P3.out.free i hlt
      have z3 := P4.out.free i hlt
      simp only [Nat.lt_irrefl, if_false] at c0 c1 c2 c3
      generalize wx.alloc (.cells #[.int .i32 f0, .int .i32 f1, .int .i32 f2, .int .i32 f3] 78) = wy at *
      have n0 : w.heap.size ≠ wx.heap.size := by have := Q1.out.lt; omega
      have n1 : W1.heap.size ≠ wx.heap.size := by have := Q2.out.lt; omega
      have n2 : W2.heap.size ≠ wx.heap.size := by have := Q3.out.lt; omega
      have n3 : W3.heap.size ≠ wx.heap.size := by have := Q4.out.lt; omega
      have n01 : w.heap.size ≠ W1.heap.size := by omega
      have n02 : w.heap.size ≠ W2.heap.size := by omega
      have n03 : w.heap.size ≠ W3.heap.size := by omega
      have n12 : W1.heap.size ≠ W2.heap.size := by omega
      have n13 : W1.heap.size ≠ W3.heap.size := by omega
      have n23 : W2.heap.size ≠ W3.heap.size := by omega
      go_wp2
      refine ⟨⟨i + 1, by go_num, by omega, ?_, ?_, ?_, ?_, ?_⟩, by simp [intOf]; omega⟩
      · exact (((row_step (P1.out.set i hlt _) F0.out).aside n01.symm _).aside n02.symm _).aside n03.symm _
      · exact ((row_step ((P2.out.aside n01 _).set i hlt _) F1.out).aside n12.symm _).aside n13.symm _
      · exact (row_step (((P3.out.aside n02 _).aside n12 _).set i hlt _) F2.out).aside n23.symm _
      · exact row_step ((((P4.out.aside n03 _).aside n13 _).aside n23 _).set i hlt _) F3.out
      · exact ((((HB.out.trans (BY.out.mono (by have := Q1.out.lt; omega))).setCell (p := ⟨w.heap.size, i, none⟩) (Nat.le_refl _) _).setCell (p := ⟨W1.heap.size, i, none⟩) (by simp; omega) _).setCell (p := ⟨W2.heap.size, i, none⟩) (by simp; omega) _).setCell (p := ⟨W3.heap.size, i, none⟩) (by simp; omega) _
    · have hd : ¬ (i : Int) < (nk : Int) := by omega
      go_wp2
      have ei : i = nk := by omega
      have C : ∀ {G : Nat} {f : Nat → Int}, Row wx G nk (fun x => .int .i32 (if x < i then f x else 0)) → Row wx G nk (fun x => .int .i32 (f x)) := fun h => h.congr (fun x hx => by simp [show x < i by omega])
      refine bodyPost_ret (v := .tuple #[.slice (some ⟨w.heap.size, 0, none⟩) nk nk, .slice (some ⟨W1.heap.size, 0, none⟩) nk nk, .slice (some ⟨W2.heap.size, 0, none⟩) nk nk, .slice (some ⟨W3.heap.size, 0, none⟩) nk nk]) (by simp [results, Tryz.results16, go_sem]) rfl ⟨_, _, _, _, rfl, C Q1.out, C Q2.out, C Q3.out, C Q4.out, HB.out⟩

end Go.Proofs.Qxb6616638aGreatFmt
