/-
  What sortNames reads; small laws.
-/
import Derived.Test.Qxb6616638aGreatFmtSortF3
import Derived.Test.Qxb6616638aGreatFmtEqual
import Derived.Test.Qxb6616638aGreatFmtFmt
namespace Go.Proofs.Qxb6616638aGreatFmt
open Go.RowKit Go.Lib
open Go.Sort (grow)
open Plain
set_option linter.unusedVariables false
set_option maxRecDepth 100000

namespace Plain
theorem cmpB_self : ∀ x : List Nat, cmpB x x = 0
  | [] => rfl
  | a :: x => by simp [cmpB, cmpB_self x]
theorem cmpB_zero : ∀ x y : List Nat, cmpB x y = 0 → x = y
  | [], [], _ => rfl
  | [], _ :: _, h => by simp [cmpB] at h
  | _ :: _, [], h => by simp [cmpB] at h
  | a :: x, b :: y, h => by
    unfold cmpB at h
    split at h
    · rename_i e
      rw [e, cmpB_zero x y h]
    · split at h
      · split at h <;> simp at h
      · split at h <;> simp at h
end Plain

/-- The keys of an object and the text, as sortNames and inOrder read them. -/
structure KeyEnv (w : World) (B n cap gk at' : Nat) (bs : Nat → Nat) (es : List Ent) (js : List Nat) : Prop where
  lB : B < w.heap.size
  lk : gk < w.heap.size
  txt : Txt w B n bs
  key : ∀ i, i < js.length → w.cell? ⟨gk, at' * 4 + i * 4, none⟩ = some (.int .i32 (js.getD i 0 : Nat)) ∧ w.cell? ⟨gk, at' * 4 + i * 4 + 1, none⟩ = some (.int .i32 (fr es (js.getD i 0) : Nat)) ∧
    w.cell? ⟨gk, at' * 4 + i * 4 + 2, none⟩ = some (.int .i32 (to es (js.getD i 0) : Nat)) ∧ w.cell? ⟨gk, at' * 4 + i * 4 + 3, none⟩ = some (.int .i32 (mEnd bs es (js.getD i 0) : Nat))
  nm : ∀ i, i < js.length → fr es (js.getD i 0) ≤ to es (js.getD i 0) ∧ to es (js.getD i 0) < n
  hn : n ≤ 16383
  hcap : n ≤ cap
  hjs : js.length ≤ 16383

variable {w : World}

theorem KeyEnv.but {w w' : World} {B n cap gk at' G : Nat} {bs : Nat → Nat} {es : List Ent} {js : List Nat} (h : KeyEnv w B n cap gk at' bs es js) (hb : But w w' G) (h4 : gk ≠ G) (h5 : B ≠ G) : KeyEnv w' B n cap gk at' bs es js := by
  have l1 := h.lB
  have l2 := h.lk
  exact ⟨Nat.lt_of_lt_of_le h.lB hb.size, Nat.lt_of_lt_of_le h.lk hb.size, fun i hi => ⟨(hb.cell l1 h5).trans (h.txt i hi).1, (h.txt i hi).2⟩,
    fun i hi => ⟨(hb.cell l2 h4).trans (h.key i hi).1, (hb.cell l2 h4).trans (h.key i hi).2.1, (hb.cell l2 h4).trans (h.key i hi).2.2.1, (hb.cell l2 h4).trans (h.key i hi).2.2.2⟩, h.nm, h.hn, h.hcap, h.hjs⟩

/-- The three boxes. -/
def boxed (w : World) (O B n cap gk at' m ck : Nat) : World :=
  ((w.alloc (.cells #[.pointer (some ⟨O, 0, none⟩)] 46)).alloc (.cells #[.slice (some ⟨B, 0, none⟩) n cap] 22)).alloc (.cells #[.slice (some ⟨gk, at' * 4, none⟩) m ck] 34)

theorem boxed_below (w : World) (O B n cap gk at' m ck : Nat) : Below w.heap.size w (boxed w O B n cap gk at' m ck) ∧ (boxed w O B n cap gk at' m ck).heap.size = w.heap.size + 3 := by
  refine ⟨(((Below.refl _ _).alloc (Nat.le_refl _) _).alloc (by simp) _).alloc (by simp; omega) _, by simp [boxed]⟩

theorem KeyEnv.boxed {B n cap gk at' : Nat} {bs : Nat → Nat} {es : List Ent} {js : List Nat} (h : KeyEnv w B n cap gk at' bs es js) (O ck : Nat) :
    CmpEnv (boxed w O B n cap gk at' js.length ck) (w.heap.size + 3) w.heap.size (w.heap.size + 1) (w.heap.size + 2) O B n cap gk at' bs es js := by
  obtain ⟨hb, hs⟩ := boxed_below w O B n cap gk at' js.length ck
  have l1 := h.lB
  have l2 := h.lk
  refine ⟨⟨by omega, by omega, by omega, by omega, by omega⟩, by omega, ?_, ?_, ⟨ck, ?_⟩, fun i hi => ⟨(hb.cell (p := ⟨B, i, none⟩) l1).trans (h.txt i hi).1, (h.txt i hi).2⟩,
    fun i hi => ⟨(hb.cell (p := ⟨gk, at' * 4 + i * 4, none⟩) l2).trans (h.key i hi).1, (hb.cell (p := ⟨gk, at' * 4 + i * 4 + 1, none⟩) l2).trans (h.key i hi).2.1, (hb.cell (p := ⟨gk, at' * 4 + i * 4 + 2, none⟩) l2).trans (h.key i hi).2.2.1, (hb.cell (p := ⟨gk, at' * 4 + i * 4 + 3, none⟩) l2).trans (h.key i hi).2.2.2⟩, h.nm, h.hn, h.hcap, h.hjs⟩
  · unfold Qxb6616638aGreatFmt.boxed
    rw [World.cell?_alloc_lt _ _ _ (by simp; omega), World.cell?_alloc_lt _ _ _ (by simp), World.cell?_alloc_new]
    rfl
  · unfold Qxb6616638aGreatFmt.boxed
    rw [World.cell?_alloc_lt _ _ _ (by simp), World.cell?_alloc_at (hn := by simp)]
    rfl
  · unfold Qxb6616638aGreatFmt.boxed
    rw [World.cell?_alloc_at (hn := by simp)]
    rfl

theorem Turn.after {w w' w'' : World} {G off len : Nat} {f : Nat → Value} (h : Turn w w' G off len f) (hG : G < w'.heap.size) (hb : Below w'.heap.size w' w'') : Turn w w'' G off len f := by
  refine ⟨⟨hb.os.trans h.but.os, hb.tape.trans h.but.tape, hb.output.trans h.but.output, Nat.le_trans h.but.size hb.size, fun k hk hne => (hb.block k (Nat.lt_of_lt_of_le hk h.but.size)).trans (h.but.block k hk hne)⟩, fun i hi => (hb.cell (p := ⟨G, off + i, none⟩) hG).trans (h.cell i hi), fun o ho => (hb.cell (p := ⟨G, o, none⟩) hG).trans (h.out o ho), fun o => (hb.frozen (p := ⟨G, o, none⟩) hG).trans (h.free o), fun cs e fr hc => ?_⟩
  obtain ⟨cs', h1, h2⟩ := h.shape cs e fr hc
  exact ⟨cs', (hb.block G hG).trans h1, h2⟩

theorem Turn.before {w0 w w' : World} {G off len : Nat} {f : Nat → Value} (h : Turn w w' G off len f) (hG : G < w0.heap.size) (hb : Below w0.heap.size w0 w) : Turn w0 w' G off len f := by
  refine ⟨⟨h.but.os.trans hb.os, h.but.tape.trans hb.tape, h.but.output.trans hb.output, Nat.le_trans hb.size h.but.size, fun k hk hne => (h.but.block k (Nat.lt_of_lt_of_le hk hb.size) hne).trans (hb.block k hk)⟩, h.cell, fun o ho => (h.out o ho).trans (hb.cell (p := ⟨G, o, none⟩) hG), fun o => (h.free o).trans (hb.frozen (p := ⟨G, o, none⟩) hG), fun cs e fr hc => h.shape cs e fr ((hb.block G hG).trans hc)⟩

/-- What sortNames leaves. -/
def SortNGives (w : World) (go off len : Nat) (us : Nat → List Nat) (is : List Nat) (e : Ending) (w' : World) : Prop :=
  ∃ is' : List Nat, is'.Perm is ∧ Turn w w' go off len (fun i => .int .u64 (is'.getD i 0 : Nat)) ∧
    ((e = .returned .nilIface ∧ StrictP us is') ∨ ((∃ a, e = .returned (.iface 149 (.pointer (some a)))) ∧ ∃ i, i + 1 < is'.length ∧ cmpU (us (is'.getD i 0)) (us (is'.getD (i + 1) 0)) = 0))

end Go.Proofs.Qxb6616638aGreatFmt
