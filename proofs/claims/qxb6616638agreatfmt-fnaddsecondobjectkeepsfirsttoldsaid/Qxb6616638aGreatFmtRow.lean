/-
  ROWS OF CELLS as plain functions: what a made slice holds; a slice that is only read.
-/
import Derived.Test.Qxb6616638aGreatFmtCheck2
import Derived.Deep.OwnRows
namespace Go.Proofs.Qxb6616638aGreatFmt
open Go.RowKit
open Plain
set_option linter.unusedVariables false
set_option maxRecDepth 100000

/-- Block G holds f 0 .. f (m - 1), none of them frozen. -/
structure Row (w : World) (G m : Nat) (f : Nat → Value) : Prop where
  lt : G < w.heap.size
  cell : ∀ i, i < m → w.cell? ⟨G, i, none⟩ = some (f i)
  free : ∀ i, i < m → w.frozen? ⟨G, i, none⟩ = false

theorem Row.below {w w' : World} {G m B : Nat} {f : Nat → Value} (h : Row w G m f) (hb : Below B w w') (hG : G < B) : Row w' G m f :=
  ⟨Nat.lt_of_lt_of_le h.lt hb.size, fun i hi => (hb.cell (p := ⟨G, i, none⟩) hG).trans (h.cell i hi), fun i hi => (hb.frozen (p := ⟨G, i, none⟩) hG).trans (h.free i hi)⟩

theorem Row.set {w : World} {G m : Nat} {f : Nat → Value} (h : Row w G m f) (i : Nat) (hi : i < m) (x : Value) : Row (w.setCell ⟨G, i, none⟩ x) G m (upd f i x) := by
  refine ⟨by simpa using h.lt, fun j hj => ?_, fun j hj => by simpa using h.free j hj⟩
  by_cases e : j = i
  · subst e
    rw [upd_same]
    exact World.cell?_setCell_same _ _ _ (h.cell j hj)
  · rw [upd_other _ _ e, World.cell?_setCell_other _ _ _ _ (fun h => e (by injection h with _ h _; exact h.symm))]
    exact h.cell j hj

theorem Row.aside {w : World} {G m A o : Nat} {f : Nat → Value} (h : Row w G m f) (hA : A ≠ G) (x : Value) : Row (w.setCell ⟨A, o, none⟩ x) G m f :=
  ⟨by simpa using h.lt, fun j hj => by rw [World.cell?_setCell_other _ _ _ _ (fun h => hA (by injection h))]; exact h.cell j hj, fun j hj => by simpa using h.free j hj⟩

theorem Row.drewN {w : World} {G m : Nat} {f : Nat → Value} (h : Row w G m f) (q : Nat) : Row (w.drewN q) G m f := ⟨h.lt, h.cell, h.free⟩

theorem Row.congr {w : World} {G m : Nat} {f f' : Nat → Value} (h : Row w G m f) (he : ∀ i, i < m → f i = f' i) : Row w G m f' :=
  ⟨h.lt, fun i hi => by rw [← he i hi]; exact h.cell i hi, h.free⟩

/-- A slice of n cells that reads f; its block below bd. -/
def Sl (w : World) (bd : Nat) (v : Value) (n : Nat) (f : Nat → Value) : Prop :=
  ∃ a c g, v = .slice a n c ∧ (0 < n → a = some ⟨g, 0, none⟩ ∧ g < bd) ∧ ∀ i, i < n → w.cell? ⟨g, i, none⟩ = some (f i)

theorem Sl.below {w w' : World} {bd : Nat} {v : Value} {n : Nat} {f : Nat → Value} (h : Sl w bd v n f) (hb : Below bd w w') : Sl w' bd v n f := by
  obtain ⟨a, c, g, rfl, h1, h2⟩ := h
  exact ⟨a, c, g, rfl, h1, fun i hi => (hb.cell (p := ⟨g, i, none⟩) (h1 (by omega)).2).trans (h2 i hi)⟩

theorem Sl.mono {w : World} {bd bd' : Nat} {v : Value} {n : Nat} {f : Nat → Value} (h : Sl w bd v n f) (hb : bd ≤ bd') : Sl w bd' v n f := by
  obtain ⟨a, c, g, rfl, h1, h2⟩ := h
  exact ⟨a, c, g, rfl, fun hn => ⟨(h1 hn).1, Nat.lt_of_lt_of_le (h1 hn).2 hb⟩, h2⟩

/-- A row that is owned, read. -/
theorem Sl.of {w : World} {base : Nat} {e : TypeId} {v : Value} {n : Nat} {xs : List Value} (h : w.ownsRow base e 1 v n xs) (f : Nat → Value) (hf : ∀ i, i < n → xs[i]? = some (f i)) : Sl w w.heap.size v n f := by
  rcases h.2 with ⟨rfl, rfl⟩ | ⟨g, cap, cur, rfl, hb, hg, _⟩
  · exact ⟨none, 0, 0, rfl, fun h => absurd h (Nat.lt_irrefl _), fun i hi => absurd hi (Nat.not_lt_zero _)⟩
  · exact ⟨_, cap, g, rfl, fun _ => ⟨rfl, (Array.getElem?_eq_some_iff.1 hg).1⟩, fun i hi => row_cell h (hf i hi)⟩

/-- A slice that is made: m zeros in a new block. -/
theorem make_row (w : World) (t e : TypeId) (i : TypeInfo) (z : Value) (ht : Tryz.prog.underlying t = some (.slice e)) (hi : Tryz.prog.info? e = some i) (hz : i.zero = some z) (hs : i.size = 1) (hb : i.bytes ≤ 64) (h1 : z.cells = #[z]) (m : Nat) (hm : m ≤ 1000000) :
    ∃ W, (Instr.makeSlice t (.int .i64 (m : Int)) (.int .i64 (m : Int))).run Tryz.prog w = .ok (.slice (some ⟨w.heap.size, 0, none⟩) m m) W ∧ Row W w.heap.size m (fun _ => z) ∧ Below w.heap.size w W := by
  have hb' : (i.bytes : Int) * (m : Int) ≤ 281474976710656 := by
    have h : i.bytes * m ≤ 64 * 1000000 := Nat.mul_le_mul hb hm
    have h2 : ((i.bytes * m : Nat) : Int) ≤ 281474976710656 := by omega
    rwa [Int.natCast_mul] at h2
  have hr := run_make (P := Tryz.prog) w t e i z ht hi hz .i64 .i64 (m : Int) (m : Int) (by omega) (Int.le_refl _) hb' (by omega)
  simp only [Int.toNat_natCast] at hr
  refine ⟨_, hr, ⟨by simp, fun j hj => ?_, fun j hj => ?_⟩, (Below.refl _ _).alloc (Nat.le_refl _) _⟩
  · rw [World.cell?_alloc_new]
    simp [madeCells, hs, h1, hj, Nat.mod_one]
  · rw [World.frozen?_alloc_new]

theorem info22 : ∃ i, Tryz.prog.info? 22 = some i ∧ i.zero = some (.slice none 0 0) ∧ i.size = 1 ∧ i.bytes = 24 := by
  have h : (Tryz.prog.info? 22).map (fun i => (i.zero, i.size, i.bytes)) = some (some (.slice none 0 0), 1, 24) := by kernel_rfl
  obtain ⟨i, hi, hz⟩ := Option.map_eq_some_iff.1 h
  simp only [Prod.mk.injEq] at hz
  exact ⟨i, hi, hz.1, hz.2.1, hz.2.2⟩
theorem info74 : ∃ i, Tryz.prog.info? 74 = some i ∧ i.zero = some (.slice none 0 0) ∧ i.size = 1 ∧ i.bytes = 24 := by
  have h : (Tryz.prog.info? 74).map (fun i => (i.zero, i.size, i.bytes)) = some (some (.slice none 0 0), 1, 24) := by kernel_rfl
  obtain ⟨i, hi, hz⟩ := Option.map_eq_some_iff.1 h
  simp only [Prod.mk.injEq] at hz
  exact ⟨i, hi, hz.1, hz.2.1, hz.2.2⟩

namespace Plain
/-- Where the name of entry j lies. -/
def fr (es : List Ent) (j : Nat) : Nat := (at_ es j).st + 1
def to (es : List Ent) (j : Nat) : Nat := (at_ es j).en - 1
/-- The entries js are names in the text. -/
def NamesOK (bs : Nat → Nat) (n : Nat) (es : List Ent) (js : List Nat) : Prop := ∀ i, i < js.length → js.getD i 0 < es.length ∧ Str bs n (at_ es (js.getD i 0)).st (at_ es (js.getD i 0)).en
end Plain

def slOf (B cap : Nat) (es : List Ent) (j : Nat) : Value := .slice (some ⟨B, fr es j, none⟩) (to es j - fr es j) (cap - fr es j)

variable {w : World} {bd T : Nat} {es : List Ent} {g cp : Nat → Nat}

set_option maxHeartbeats 2000000 in
theorem namesOf_any (B n cap : Nat) (bs : Nat → Nat) (js : List Nat) (v : Value) (h : TR w bd T es g cp) (hbd : bd ≤ w.heap.size) (hn : n ≤ 16383) (hcap : n ≤ cap) (hl : es.length ≤ n) (hv : Sl w w.heap.size v js.length (fun i => .int .i64 (js.getD i 0 : Nat))) (hN : NamesOK bs n es js) (hjl : js.length ≤ 16383) :
    Calls Tryz.prog 14 #[.slice (some ⟨B, 0, none⟩) n cap, .pointer (some ⟨T, 0, none⟩), v] w fun e w' => e = .returned (.slice (some ⟨w.heap.size, 0, none⟩) js.length js.length) ∧ Row w' w.heap.size js.length (fun i => slOf B cap es (js.getD i 0)) ∧ Below w.heap.size w w' := by
  obtain ⟨i22, hi22, hz22, hs22, hb22⟩ := info22
  obtain ⟨W1, hmk, hrow, hbel⟩ := make_row w 53 22 i22 (.slice none 0 0) Tryz.underlying53 hi22 hz22 hs22 (by omega) rfl js.length (by omega)
  have HR0 := hide hrow
  have HB0 := hide hbel
  have H := hide h
  have HN := hide hN
  have HV := hide hv
  obtain ⟨a, c, gv, rfl, ha, hc⟩ := hv
  have HA := hide ha
  have HC := hide hc
  clear hi22 hz22 hs22 hb22 hrow hbel h hN ha hc
  go_enter Tryz.func14, Tryz.ntmps14
  go_wp2
  go_loopw [15, 8, 9] (fun t v8 v9 wr => ∃ i : Nat, t = .int .i64 i ∧ i ≤ js.length ∧ Row wr w.heap.size js.length (fun x => if x < i then slOf B cap es (js.getD x 0) else .slice none 0 0) ∧ Below w.heap.size w wr) (fun t _ _ _ => 20000 - (intOf t).toNat)
  case atStart => exact ⟨0, rfl, Nat.zero_le _, by simpa using HR0.out, HB0.out⟩
  case round =>
    obtain ⟨i, rfl, hi, hrow, hbw⟩ := hrel
    have HR := hide hrow
    have HB := hide hbw
    have HT := hide (H.out.below (hbw.mono hbd))
    clear hrow hbw
    by_cases hlt : i < js.length
    · have hli : (i : Int) < (js.length : Int) := by omega
      have hli0 : (0 : Int) ≤ (i : Int) := by omega
      have ea := (HA.out (by omega)).1
      subst ea
      have cj := (HB.out.cell (p := ⟨gv, i, none⟩) (HA.out (by omega)).2).trans (HC.out i hlt)
      obtain ⟨hj1, hj2, hj3, _⟩ := HN.out i hlt
      have c0 := HT.out.cell 0 (by omega)
      have c1 := HT.out.cell 1 (by omega)
      have s0 := HT.out.st _ hj1
      have s1 := HT.out.en _ hj1
      have r0 := HR.out.cell i hlt
      have r1 := HR.out.free i hlt
      simp only [Nat.lt_irrefl, if_false] at r0
      have HS : Hid (slOf B cap es (js.getD i 0) = .slice (some ⟨B, (at_ es (js.getD i 0)).st + 1, none⟩) ((at_ es (js.getD i 0)).en - 1 - ((at_ es (js.getD i 0)).st + 1)) (cap - ((at_ es (js.getD i 0)).st + 1))) := rfl
      generalize hjj : js.getD i 0 = j at cj hj1 hj2 hj3 s0 s1 HS
      have HJ := hide hjj
      clear hjj
      generalize (at_ es j).st = s at hj2 s0 HS
      generalize (at_ es j).en = e at hj2 hj3 s1 HS
      have k1 : (j : Int) < (es.length : Int) := by omega
      have k2 : (0 : Int) ≤ (j : Int) := by omega
      go_wp2
      go_region
      all_goals go_wp2
      refine ⟨⟨i + 1, by go_num, by omega, ?_, ?_⟩, by simp [intOf]; omega⟩
      · have r := HR.out.set i hlt (slOf B cap es j)
        rw [HS.out] at r
        have r2 := r.congr (f' := fun x => if x < i + 1 then slOf B cap es (js.getD x 0) else .slice none 0 0) (fun x hx => ?_)
        · exact ⟨r2.lt, r2.cell, r2.free⟩
        · by_cases e : x = i
          · subst e
            rw [upd_same, if_pos (by omega), HJ.out, HS.out]
          · rw [upd_other _ _ e]
            by_cases e2 : x < i
            · simp [e2, show x < i + 1 by omega]
            · simp [e2, show ¬ x < i + 1 by omega]
      · have b := HB.out.setCell (p := ⟨w.heap.size, i, none⟩) (Nat.le_refl _) (slOf B cap es j)
        rw [HS.out] at b
        exact ⟨b.os, b.tape, b.output, b.size, b.block⟩
    · have hli : ¬ (i : Int) < (js.length : Int) := by omega
      go_wp2
      go_ret
      refine ⟨rfl, HR.out.congr (fun x hx => ?_), HB.out⟩
      simp [show x < i by omega]

end Go.Proofs.Qxb6616638aGreatFmt
