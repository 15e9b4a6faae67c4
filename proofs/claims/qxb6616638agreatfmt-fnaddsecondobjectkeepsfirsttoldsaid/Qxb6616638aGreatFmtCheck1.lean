/-
  THE TAPE READ: its memory as the checks read it; the walks of zzIsValue, zzIsObject, zzMemberEnd.
-/
import Derived.Test.Qxb6616638aGreatFmtZbuild
namespace Go.Proofs.Qxb6616638aGreatFmt
open Go.RowKit
open Plain
set_option linter.unusedVariables false
set_option maxRecDepth 100000

/-- THE TAPE, READ: the struct lies in block T, its five slices in blocks g i; all below bd. -/
structure TR (w : World) (bd T : Nat) (es : List Ent) (g cp : Nat → Nat) : Prop where
  ltT : T < bd
  lt : ∀ i, i < 5 → g i < bd
  cell : ∀ i, i < 5 → w.cell? ⟨T, i, none⟩ = some (.slice (some ⟨g i, 0, none⟩) es.length (cp i))
  st : ∀ x, x < es.length → w.cell? ⟨g 0, x, none⟩ = some (.int .i32 ((at_ es x).st : Int))
  en : ∀ x, x < es.length → w.cell? ⟨g 1, x, none⟩ = some (.int .i32 ((at_ es x).en : Int))
  cl : ∀ x, x < es.length → w.cell? ⟨g 2, x, none⟩ = some (.bool (at_ es x).cl)
  nm : ∀ x, x < es.length → w.cell? ⟨g 3, x, none⟩ = some (.bool (at_ es x).nm)
  pa : ∀ x, x < es.length → w.cell? ⟨g 4, x, none⟩ = some (.int .i32 (at_ es x).pa)

theorem TR.below {w w' : World} {bd T : Nat} {es : List Ent} {g cp : Nat → Nat} (h : TR w bd T es g cp) (hb : Below bd w w') : TR w' bd T es g cp :=
  ⟨h.ltT, h.lt, fun i hi => (hb.cell (p := ⟨T, i, none⟩) h.ltT).trans (h.cell i hi), fun x hx => (hb.cell (p := ⟨g 0, x, none⟩) (h.lt 0 (by omega))).trans (h.st x hx),
    fun x hx => (hb.cell (p := ⟨g 1, x, none⟩) (h.lt 1 (by omega))).trans (h.en x hx), fun x hx => (hb.cell (p := ⟨g 2, x, none⟩) (h.lt 2 (by omega))).trans (h.cl x hx),
    fun x hx => (hb.cell (p := ⟨g 3, x, none⟩) (h.lt 3 (by omega))).trans (h.nm x hx), fun x hx => (hb.cell (p := ⟨g 4, x, none⟩) (h.lt 4 (by omega))).trans (h.pa x hx)⟩

theorem at_get {es : List Ent} {x : Nat} (h : x < es.length) : es[x]? = some (at_ es x) := by
  simp [at_, List.getD_eq_getElem?_getD, h]

/-- A cell of a row that is owned. -/
theorem row_cell {w : World} {base : Nat} {e : TypeId} {g n cap x : Nat} {xs : List Value} {u : Value} (h : w.ownsRow base e 1 (.slice (some ⟨g, 0, none⟩) n cap) n xs) (hx : xs[x]? = some u) : w.cell? ⟨g, x, none⟩ = some u := by
  have := h.cells (g := g) rfl x u hx
  have e : (⟨g, 0, none⟩ : Addr).add x = ⟨g, x, none⟩ := by unfold Addr.add; split <;> simp_all
  rwa [e] at this

/-- Out of the five rows that were built. -/
theorem TR.of {w : World} {base bd T : Nat} {es : List Ent} {v : Nat → Value} (h5 : Rows5 w base v es) (hne : 0 < es.length) (hT : ∀ i, i < 5 → w.cell? ⟨T, i, none⟩ = some (v i)) (hbd : w.heap.size ≤ bd) : ∃ g cp, TR w bd T es g cp := by
  have hTl : T < w.heap.size := World.block_lt_of_cell? _ _ (hT 0 (by omega))
  obtain ⟨g0, c0, e0, _, l0⟩ := (h5 0 (by omega)).form hne
  obtain ⟨g1, c1, e1, _, l1⟩ := (h5 1 (by omega)).form hne
  obtain ⟨g2, c2, e2, _, l2⟩ := (h5 2 (by omega)).form hne
  obtain ⟨g3, c3, e3, _, l3⟩ := (h5 3 (by omega)).form hne
  obtain ⟨g4, c4, e4, _, l4⟩ := (h5 4 (by omega)).form hne
  have r0 := h5 0 (by omega)
  have r1 := h5 1 (by omega)
  have r2 := h5 2 (by omega)
  have r3 := h5 3 (by omega)
  have r4 := h5 4 (by omega)
  rw [e0] at r0; rw [e1] at r1; rw [e2] at r2; rw [e3] at r3; rw [e4] at r4
  refine ⟨fun i => if i = 0 then g0 else if i = 1 then g1 else if i = 2 then g2 else if i = 3 then g3 else g4, fun i => if i = 0 then c0 else if i = 1 then c1 else if i = 2 then c2 else if i = 3 then c3 else c4, by omega, ?_, ?_, ?_, ?_, ?_, ?_, ?_⟩
  · intro i hi
    have : i = 0 ∨ i = 1 ∨ i = 2 ∨ i = 3 ∨ i = 4 := by omega
    rcases this with rfl | rfl | rfl | rfl | rfl <;> simp <;> omega
  · intro i hi
    rw [hT i hi]
    have : i = 0 ∨ i = 1 ∨ i = 2 ∨ i = 3 ∨ i = 4 := by omega
    rcases this with rfl | rfl | rfl | rfl | rfl
    · rw [e0]; rfl
    · rw [e1]; rfl
    · rw [e2]; rfl
    · rw [e3]; rfl
    · rw [e4]; rfl
  · intro x hx
    exact row_cell r0 (by simp [encE, at_get hx])
  · intro x hx
    exact row_cell r1 (by simp [encE, at_get hx])
  · intro x hx
    exact row_cell r2 (by simp [encE, at_get hx])
  · intro x hx
    exact row_cell r3 (by simp [encE, at_get hx])
  · intro x hx
    exact row_cell r4 (by simp [encE, at_get hx])

/-- A bool; where it is true, p; nothing has turned. -/
def YesGives (w : World) (p : Prop) (e : Ending) (w' : World) : Prop := (∃ r : Bool, e = .returned (.bool r) ∧ (r = true → p)) ∧ w' = w

variable {w : World} {bd T : Nat} {es : List Ent} {g cp : Nat → Nat}

theorem isValue_any (k : Int) (h : TR w bd T es g cp) (hl : es.length ≤ 16383) :
    Calls Tryz.prog 20 #[.pointer (some ⟨T, 0, none⟩), .int .i64 k] w (YesGives w (∃ K : Nat, k = K ∧ K < es.length ∧ (at_ es K).cl = false)) := by
  have H := hide h
  have c0 := h.cell 0 (by omega)
  have c2 := h.cell 2 (by omega)
  clear h
  by_cases h0 : 0 ≤ k
  · obtain ⟨K, rfl⟩ := Int.eq_ofNat_of_zero_le h0
    by_cases hK : K < es.length
    · have hc := H.out.cl K hK
      have hKi : (K : Int) < (es.length : Int) := by omega
      generalize hcl : (at_ es K).cl = c at hc
      have HC := hide hcl
      clear hcl
      cases c
      · go_enter Tryz.func20, Tryz.ntmps20
        go_wp2
        go_ret
        exact ⟨⟨true, rfl, fun _ => ⟨K, rfl, hK, HC.out⟩⟩, rfl⟩
      · go_enter Tryz.func20, Tryz.ntmps20
        go_wp2
        go_ret
        exact ⟨⟨false, rfl, fun h => by cases h⟩, rfl⟩
    · have hd : decide ((K : Int) < (es.length : Int)) = false := by simp; omega
      go_enter Tryz.func20, Tryz.ntmps20
      go_wp2
      go_ret
      exact ⟨⟨false, rfl, fun h => by cases h⟩, rfl⟩
  · have hd : decide ((0 : Int) ≤ k) = false := by simpa using h0
    go_enter Tryz.func20, Tryz.ntmps20
    go_wp2
    go_ret
    exact ⟨⟨false, rfl, fun h => by cases h⟩, rfl⟩

theorem isObject_any (B n cap : Nat) (bs : Nat → Nat) (k : Int) (h : TR w bd T es g cp) (hn : n ≤ 16383) (hx : Txt w B n bs) (hB : Built bs n es) :
    Calls Tryz.prog 7 #[.slice (some ⟨B, 0, none⟩) n cap, .pointer (some ⟨T, 0, none⟩), .int .i64 k] w (YesGives w (∃ K : Nat, k = K ∧ K < es.length ∧ (at_ es K).cl = false ∧ bs (at_ es K).st = 123)) := by
  have H := hide h
  have HX := hide hx
  have HBu := hide hB
  have c0 := h.cell 0 (by omega)
  have hlen : es.length ≤ n := hB.len
  clear h hx hB
  go_enter Tryz.func7, Tryz.ntmps7
  go_wp2_with fail
  refine (isValue_any k H.out (by omega)).mono ?_
  rintro e w' ⟨⟨r, rfl, hr⟩, rfl⟩
  cases r
  · go_wp2
    go_ret
    exact ⟨⟨false, rfl, fun h => by cases h⟩, rfl⟩
  · obtain ⟨K, rfl, hK, hcl⟩ := hr rfl
    have HCL := hide hcl
    have hs := H.out.st K hK
    have hf := (HBu.out.ok K hK).1.1
    have hc := HX.out.at (at_ es K).st hf
    generalize hst : (at_ es K).st = s at hs hf hc
    have HST := hide hst
    generalize hbb : bs s = y at hc
    have HY := hide hbb
    have hKi : (K : Int) < (es.length : Int) := by omega
    have hK0 : (0 : Int) ≤ (K : Int) := by omega
    have hsi : (s : Int) < (n : Int) := by omega
    have hs0 : (0 : Int) ≤ (s : Int) := by omega
    clear hst hbb hcl hr
    by_cases hy : y = 123
    · subst hy
      go_wp2
      go_ret
      exact ⟨⟨true, rfl, fun _ => ⟨K, rfl, hK, HCL.out, by rw [HST.out]; exact HY.out⟩⟩, rfl⟩
    · have hy' : ((y : Int) == 123) = false := by simp; omega
      go_wp2
      go_ret
      exact ⟨⟨false, rfl, fun h => by cases h⟩, rfl⟩

end Go.Proofs.Qxb6616638aGreatFmt
