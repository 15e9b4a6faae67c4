/-
  THE WALK of ZZNewTape; the tape of the package read: the walk of canonical.
-/
import Derived.Test.Qxb6616638aGreatFmtBig
import Derived.Test.Qxb6616638aGreatFmtOrdAt
namespace Go.Proofs.Qxb6616638aGreatFmt
open Go.RowKit
open Plain
set_option linter.unusedVariables false
set_option maxRecDepth 100000

/-- THE PACKAGE's TAPE, READ. -/
structure NT (w : World) (bd D : Nat) (es : List Ent) : Prop where
  ltD : D < bd
  ent : ∃ ge c, ge < bd ∧ w.cell? ⟨D, 1, none⟩ = some (.slice (some ⟨ge, 0, none⟩) es.length c) ∧ ∀ i, i < es.length → w.cell? ⟨ge, i * 2, none⟩ = some (.int .i32 ((at_ es i).st : Int)) ∧ w.cell? ⟨ge, i * 2 + 1, none⟩ = some (.int .i32 ((at_ es i).en : Int))
  rew : ∃ gr l c, gr < bd ∧ w.cell? ⟨D, 2, none⟩ = some (.slice (some ⟨gr, 0, none⟩) l c) ∧ es.length / 64 < l ∧ l ≤ 1000 ∧ ∀ i, i < l → w.cell? ⟨gr, i, none⟩ = some (.int .u64 0)

theorem NT.below {w w' : World} {bd D : Nat} {es : List Ent} (h : NT w bd D es) (hb : Below bd w w') : NT w' bd D es := by
  refine ⟨h.ltD, ?_, ?_⟩
  · obtain ⟨ge, c, e1, e2, e3⟩ := h.ent
    exact ⟨ge, c, e1, (hb.cell (p := ⟨D, 1, none⟩) h.ltD).trans e2, fun i hi => ⟨(hb.cell (p := ⟨ge, i * 2, none⟩) e1).trans (e3 i hi).1, (hb.cell (p := ⟨ge, i * 2 + 1, none⟩) e1).trans (e3 i hi).2⟩⟩
  · obtain ⟨gr, l, c, e1, e2, e3, e4, e5⟩ := h.rew
    exact ⟨gr, l, c, e1, (hb.cell (p := ⟨D, 2, none⟩) h.ltD).trans e2, e3, e4, fun i hi => (hb.cell (p := ⟨gr, i, none⟩) e1).trans (e5 i hi)⟩

theorem NT.mono {w : World} {bd bd' D : Nat} {es : List Ent} (h : NT w bd D es) (hb : bd ≤ bd') : NT w bd' D es := by
  refine ⟨Nat.lt_of_lt_of_le h.ltD hb, ?_, ?_⟩
  · obtain ⟨ge, c, e1, e2, e3⟩ := h.ent
    exact ⟨ge, c, Nat.lt_of_lt_of_le e1 hb, e2, e3⟩
  · obtain ⟨gr, l, c, e1, e2, e3, e4, e5⟩ := h.rew
    exact ⟨gr, l, c, Nat.lt_of_lt_of_le e1 hb, e2, e3, e4, e5⟩

theorem make_row2 (w : World) (m : Nat) (hm : m ≤ 1000000) :
    ∃ W, (Instr.makeSlice 62 (.int .i64 (m : Int)) (.int .i64 (m : Int))).run Tryz.prog w = .ok (.slice (some ⟨w.heap.size, 0, none⟩) m m) W ∧ Row W w.heap.size (m * 2) (fun _ => .int .i32 0) ∧ Below w.heap.size w W := by
  have hin : (Tryz.prog.info? 67).map (fun i => (i.zero, i.size, i.bytes)) = some (some (.agg #[.int .i32 0, .int .i32 0]), 2, 8) := by kernel_rfl
  obtain ⟨i, hi, hz⟩ := Option.map_eq_some_iff.1 hin
  simp only [Prod.mk.injEq] at hz
  obtain ⟨hz, hs, hb⟩ := hz
  have hr := run_make (P := Tryz.prog) w 62 67 i (.agg #[.int .i32 0, .int .i32 0]) Tryz.underlying62 hi hz .i64 .i64 (m : Int) (m : Int) (by omega) (Int.le_refl _) (by rw [hb]; omega) (by omega)
  simp only [Int.toNat_natCast] at hr
  refine ⟨_, hr, ⟨by simp, fun j hj => ?_, fun j hj => ?_⟩, (Below.refl _ _).alloc (Nat.le_refl _) _⟩
  · rw [World.cell?_alloc_new]
    have : j % 2 = 0 ∨ j % 2 = 1 := by omega
    rcases this with e | e <;> simp [madeCells, hs, hj, Value.cells, e]
  · rw [World.frozen?_alloc_new]

theorem info36 : ∃ i, Tryz.prog.info? 36 = some i ∧ i.zero = some (.int .u64 0) ∧ i.size = 1 ∧ i.bytes = 8 := by
  have h : (Tryz.prog.info? 36).map (fun i => (i.zero, i.size, i.bytes)) = some (some (.int .u64 0), 1, 8) := by kernel_rfl
  obtain ⟨i, hi, hz⟩ := Option.map_eq_some_iff.1 h
  simp only [Prod.mk.injEq] at hz
  exact ⟨i, hi, hz.1, hz.2.1, hz.2.2⟩

variable {w : World} {bd T : Nat} {es : List Ent} {g cp : Nat → Nat}

set_option maxHeartbeats 4000000 in
theorem newTape_any (c0 c1 : Nat) (h : TR w bd T es g cp) (hbd : bd ≤ w.heap.size) (hl : es.length ≤ 16383) :
    Calls Tryz.prog 8 #[.int .i64 10000, .slice (some ⟨g 0, 0, none⟩) es.length c0, .slice (some ⟨g 1, 0, none⟩) es.length c1] w fun e w' => (∃ D, e = .returned (.pointer (some ⟨D, 0, none⟩)) ∧ NT w' w'.heap.size D es) ∧ Below w.heap.size w w' := by
  have H := hide h
  clear h
  go_enter Tryz.func8, Tryz.ntmps8
  go_upto_region 2 with (first | (refine wpList_tape_build rfl _ rfl rfl ?_) | (refine wpList_tape_box rfl _ rfl rfl ?_; intro w1 hnb))
  obtain ⟨W2, mk2, r2, b2⟩ := make_row2 w1 es.length (by omega)
  have hsz1 : w.heap.size < w1.heap.size := by have := hnb.size; omega
  have l2 := r2.lt
  have d1 := (hnb.row.below b2 (show w.heap.size < w1.heap.size by omega)).cell 1 (by omega)
  have f1 := (hnb.row.below b2 (show w.heap.size < w1.heap.size by omega)).free 1 (by omega)
  have HD := hide (hnb.row.below b2 (show w.heap.size < w1.heap.size by omega))
  have HR2 := hide r2
  have HB2 : Hid (Below w.heap.size w W2) := hnb.below.trans (b2.mono (by omega))
  clear hnb r2 b2
  have n1 : w.heap.size ≠ w1.heap.size := by omega
  go_wp2
  go_loopw [23, 8] (fun t v8 wr => ∃ i : Nat, t = .int .i64 i ∧ i ≤ es.length ∧ W2.heap.size ≤ wr.heap.size ∧ Row wr w.heap.size 161 (upd tz 1 (.slice (some ⟨w1.heap.size, 0, none⟩) es.length es.length)) ∧ Row wr w1.heap.size (es.length * 2) (fun x => .int .i32 (if x / 2 < i then (if x % 2 = 0 then ((at_ es (x / 2)).st : Int) else ((at_ es (x / 2)).en : Int)) else 0)) ∧ Below w.heap.size w wr) (fun t _ _ => 20000 - (intOf t).toNat)
  case atStart =>
    refine ⟨0, rfl, Nat.zero_le _, ?_, HD.out.set 1 (by omega) _, ?_, HB2.out.setCell (p := ⟨w.heap.size, 1, none⟩) (Nat.le_refl _) _⟩
    · simp
    · simpa using HR2.out.aside n1 _
  case round =>
    rename World => wx
    obtain ⟨i, rfl, hi, hsz, hd, hr, hb⟩ := hrel
    have HD2 := hide hd
    have HR := hide hr
    have HB := hide hb
    clear hd hr hb
    by_cases hlt : i < es.length
    · have hli : (i : Int) < (es.length : Int) := by omega
      have hli0 : (0 : Int) ≤ (i : Int) := by omega
      have x1 := HD2.out.cell 1 (by omega)
      rw [upd_same] at x1
      have s0 := ((HB.out.cell (p := ⟨g 0, i, none⟩) (Nat.lt_of_lt_of_le (H.out.lt 0 (by omega)) hbd)).trans (H.out.st i hlt))
      have s1 := ((HB.out.cell (p := ⟨g 1, i, none⟩) (Nat.lt_of_lt_of_le (H.out.lt 1 (by omega)) hbd)).trans (H.out.en i hlt))
      have y0 := HR.out.cell (i * 2) (by omega)
      have y1 := HR.out.cell (i * 2 + 1) (by omega)
      have z0 := HR.out.free (i * 2) (by omega)
      have z1 := HR.out.free (i * 2 + 1) (by omega)
      simp only [show ¬ i * 2 / 2 < i by omega, show ¬ (i * 2 + 1) / 2 < i by omega, if_false] at y0 y1
      generalize hst : (at_ es i).st = s at s0
      generalize hen : (at_ es i).en = e at s1
      have HST := hide hst
      have HEN := hide hen
      clear hst hen
      go_wp2
      go_region
      all_goals go_wp2
      have hrr := (HR.out.set (i * 2) (by omega) (.int .i32 (s : Int))).set (i * 2 + 1) (by omega) (.int .i32 (e : Int))
      have hdd := (HD2.out.aside (A := w1.heap.size) (o := i * 2) (fun h => n1 h.symm) (.int .i32 (s : Int))).aside (A := w1.heap.size) (o := i * 2 + 1) (fun h => n1 h.symm) (.int .i32 (e : Int))
      have hbb := (HB.out.setCell (p := ⟨w1.heap.size, i * 2, none⟩) (by simp; omega) (.int .i32 (s : Int))).setCell (p := ⟨w1.heap.size, i * 2 + 1, none⟩) (by simp; omega) (.int .i32 (e : Int))
      refine ⟨⟨i + 1, by go_num, by omega, by simpa using hsz, ⟨hdd.lt, hdd.cell, hdd.free⟩, ?_, ⟨hbb.os, hbb.tape, hbb.output, hbb.size, hbb.block⟩⟩, by simp [intOf]; omega⟩
      have hr3 := hrr.congr (f' := fun x => .int .i32 (if x / 2 < i + 1 then (if x % 2 = 0 then ((at_ es (x / 2)).st : Int) else ((at_ es (x / 2)).en : Int)) else 0)) (fun x hx => ?_)
      · exact ⟨hr3.lt, hr3.cell, hr3.free⟩
      · by_cases e1 : x = i * 2 + 1
        · subst e1
          rw [upd_same, if_pos (by omega), if_neg (by omega), show (i * 2 + 1) / 2 = i by omega, HEN.out]
        · rw [upd_other _ _ e1]
          by_cases e2 : x = i * 2
          · subst e2
            rw [upd_same, if_pos (by omega), if_pos (by omega), show (i * 2) / 2 = i by omega, HST.out]
          · rw [upd_other _ _ e2]
            by_cases e3 : x / 2 < i
            · simp [e3, show x / 2 < i + 1 by omega]
            · simp [e3, show ¬ x / 2 < i + 1 by omega]
    · have hd : ¬ (i : Int) < (es.length : Int) := by omega
      have ei : i = es.length := by omega
      obtain ⟨i36, hi36, hz36, hs36, hb36⟩ := info36
      obtain ⟨W3, mk3, r3, b3⟩ := make_row wx 35 36 i36 (.int .u64 0) Tryz.underlying35 hi36 hz36 hs36 (by omega) rfl (es.length / 64 + 1) (by omega)
      rw [show ((es.length / 64 + 1 : Nat) : Int) = (es.length : Int) / 64 + 1 by omega] at mk3
      have hwx := HD2.out.lt
      have hwr := HR.out.lt
      have HD3 := hide (HD2.out.below b3 hwx)
      have HR3 := hide (HR.out.below b3 hwr)
      have HZ3 := hide r3
      have HB3 : Hid (Below w.heap.size w W3) := HB.out.trans (b3.mono (by omega))
      have l3 := r3.lt
      have d2 := HD3.out.cell 2 (by omega)
      have f2 := HD3.out.free 2 (by omega)
      clear hi36 hz36 hs36 hb36 r3 b3 ei
      have n2 : w.heap.size ≠ wx.heap.size := by omega
      have n3 : w.heap.size ≠ w1.heap.size := by omega
      go_wp2
      go_ret
      have q := HD3.out.set 2 (by omega) (.slice (some ⟨wx.heap.size, 0, none⟩) (es.length / 64 + 1) (es.length / 64 + 1))
      have qr := HR3.out.aside (A := w.heap.size) (o := 2) n3 (.slice (some ⟨wx.heap.size, 0, none⟩) (es.length / 64 + 1) (es.length / 64 + 1))
      have qz := HZ3.out.aside (A := w.heap.size) (o := 2) n2 (.slice (some ⟨wx.heap.size, 0, none⟩) (es.length / 64 + 1) (es.length / 64 + 1))
      refine ⟨⟨w.heap.size, rfl, ?_, ⟨w1.heap.size, es.length, ?_, ?_, fun j hj => ⟨?_, ?_⟩⟩, ⟨wx.heap.size, es.length / 64 + 1, es.length / 64 + 1, ?_, ?_, by omega, by omega, fun j hj => ?_⟩⟩, ?_⟩
      · exact q.lt
      · exact qr.lt
      · have := q.cell 1 (by omega)
        rw [upd_other _ _ (by omega), upd_same] at this
        exact this
      · have := qr.cell (j * 2) (by omega)
        simp only [show j * 2 / 2 = j by omega, show j * 2 % 2 = 0 by omega, show j < i by omega, if_true] at this
        exact this
      · have := qr.cell (j * 2 + 1) (by omega)
        simp only [show (j * 2 + 1) / 2 = j by omega, show ¬ (j * 2 + 1) % 2 = 0 by omega, show j < i by omega, if_true, if_false] at this
        exact this
      · exact qz.lt
      · have := q.cell 2 (by omega)
        rw [upd_same] at this
        exact this
      · exact qz.cell j hj
      · exact HB3.out.setCell (p := ⟨w.heap.size, 2, none⟩) (Nat.le_refl _) _

end Go.Proofs.Qxb6616638aGreatFmt
