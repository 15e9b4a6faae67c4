/-
  How memory lies behind addMembers.
-/
import Derived.Test.Qxb6616638aGreatFmtAdd0
namespace Go.Proofs.Qxb6616638aGreatFmt
open Go.RowKit
open Plain
set_option linter.unusedVariables false
set_option maxRecDepth 100000

structure AM1 (w w1 : World) (base O B n cap first gk go ck co b8 b10 : Nat) (bs : Nat → Nat) (es : List Ent) (js : List Nat) (ks os_ : List Value) : Prop where
  low : Below base w w1
  o0 : w1.cell? ⟨O, 0, none⟩ = some (.slice (some ⟨gk, 0, none⟩) (first + js.length) ck)
  o1 : w1.cell? ⟨O, 1, none⟩ = some (.slice (some ⟨go, 0, none⟩) (first + js.length) co)
  o2 : w1.cell? ⟨O, 2, none⟩ = some (.slice none 0 0)
  fz : ∀ o, w1.frozen? ⟨O, o, none⟩ = false
  kept : Fresh w1 O
  x0 : w1.cell? ⟨b10, 0, none⟩ = some (.int .i32 (first : Int))
  x1 : w1.cell? ⟨b10, 1, none⟩ = some (.int .i32 0)
  r0 : w1.cell? ⟨b8, 0, none⟩ = some (.int .i32 0)
  r1 : w1.cell? ⟨b8, 1, none⟩ = some (.int .i32 0)
  rz : ∀ o, w1.frozen? ⟨b8, o, none⟩ = false
  rk : w1.ownsRow base 78 4 (.slice (some ⟨gk, 0, none⟩) (first + js.length) ck) (first + js.length) (ks ++ keysOf bs es js)
  ro : w1.ownsRow base 36 1 (.slice (some ⟨go, 0, none⟩) (first + js.length) co) (first + js.length) (os_ ++ ordOf bs es js)
  ne : gk ≠ go ∧ gk ≠ O ∧ go ≠ O ∧ gk ≠ b8 ∧ go ≠ b8 ∧ gk ≠ b10 ∧ go ≠ b10 ∧ O ≠ b8 ∧ O ≠ b10 ∧ b8 ≠ b10
  lt : b8 < w1.heap.size ∧ b10 < w1.heap.size ∧ gk < w1.heap.size ∧ go < w1.heap.size ∧ O < w1.heap.size ∧ B < w1.heap.size
  ge : base ≤ gk ∧ base ≤ go ∧ base ≤ O ∧ base ≤ b8 ∧ base ≤ b10 ∧ B < base ∧ base ≤ w.heap.size
  txt : Txt w1 B n bs
  tape : w1.tape = w.tape

theorem set_same {w : World} {b o : Nat} {u v : Value} (h : w.cell? ⟨b, o, none⟩ = some u) : (w.setCell ⟨b, o, none⟩ v).cell? ⟨b, o, none⟩ = some v := World.cell?_setCell_same _ _ _ h
theorem set_other {w : World} {b o b' o' : Nat} {v : Value} (h : b ≠ b' ∨ o ≠ o') : (w.setCell ⟨b, o, none⟩ v).cell? ⟨b', o', none⟩ = w.cell? ⟨b', o', none⟩ := by
  refine World.cell?_setCell_other _ _ _ _ ?_
  intro e
  injection e with e1 e2 _
  rcases h with h | h
  · exact h e1
  · exact h e2

theorem since_cases {w0 w : World} {base : Nat} {e : TypeId} {sz : Nat} {v : Value} {n : Nat} {xs : List Value} {g m c : Nat} (hr : w0.ownsRow base e sz v n xs) (h : Since w v (.slice (some ⟨g, 0, none⟩) m c)) : (v.ownBlock = some g ∧ g < w0.heap.size) ∨ w.heap.size ≤ g := by
  rcases h with h | ⟨g', h, h'⟩
  · have h1 : v.ownBlock = some g := h.symm
    exact .inl ⟨h1, ownsRow_lt hr h1⟩
  · have : g = g' := by injection h
    omega

theorem AM1.of {w wc W : World} {base bd O D B n cap k first q gk go ck co b10 : Nat} {bs : Nat → Nat} {es : List Ent} {js : List Nat} {kv ov : Value} {ks os_ : List Value} (h : AddEnv w base bd O D B n cap k first q bs es js kv ov ks os_)
    (x0 : wc.cell? ⟨b10, 0, none⟩ = some (.int .i32 (first : Int))) (x1 : wc.cell? ⟨b10, 1, none⟩ = some (.int .i32 0)) (l1 : w.heap.size < b10) (l2 : b10 < wc.heap.size) (r0 : wc.cell? ⟨w.heap.size, 0, none⟩ = some (.int .i32 0)) (r1 : wc.cell? ⟨w.heap.size, 1, none⟩ = some (.int .i32 0))
    (rz : ∀ o, wc.frozen? ⟨w.heap.size, o, none⟩ = false) (hb : Below w.heap.size w wc) (hbut : But2 wc W kv ov) (rk : W.ownsRow base 78 4 (.slice (some ⟨gk, 0, none⟩) (first + js.length) ck) (first + js.length) (ks ++ keysOf bs es js))
    (ro : W.ownsRow base 36 1 (.slice (some ⟨go, 0, none⟩) (first + js.length) co) (first + js.length) (os_ ++ ordOf bs es js)) (sk : Since wc kv (.slice (some ⟨gk, 0, none⟩) (first + js.length) ck)) (so : Since wc ov (.slice (some ⟨go, 0, none⟩) (first + js.length) co)) (hne : gk ≠ go) :
    AM1 w ((W.setCell ⟨O, 0, none⟩ (.slice (some ⟨gk, 0, none⟩) (first + js.length) ck)).setCell ⟨O, 1, none⟩ (.slice (some ⟨go, 0, none⟩) (first + js.length) co)) base O B n cap first gk go ck co w.heap.size b10 bs es js ks os_ := by
  have hc := h.below hb
  have hO := h.lt
  have hsc := hb.size
  have hsW := hbut.size
  have hbd := h.hbd
  have hbase := h.hbase
  have hB := h.hB
  have ck1 := since_cases h.rk sk
  have co1 := since_cases h.ro so
  have gkO : gk ≠ O := by
    rcases ck1 with ⟨e, _⟩ | e
    · intro e'; rw [e'] at e; exact h.nk e
    · omega
  have goO : go ≠ O := by
    rcases co1 with ⟨e, _⟩ | e
    · intro e'; rw [e'] at e; exact h.no e
    · omega
  have blk : ∀ g, w.heap.size ≤ g → g < wc.heap.size → (∀ o, W.cell? ⟨g, o, none⟩ = wc.cell? ⟨g, o, none⟩) ∧ ∀ o, W.frozen? ⟨g, o, none⟩ = wc.frozen? ⟨g, o, none⟩ := by
    intro g hg hg'
    refine hbut.keep hg' (fun e => ?_) (fun e => ?_)
    · have := ownsRow_lt h.rk e; omega
    · have := ownsRow_lt h.ro e; omega
  have kO := hbut.keep (O := O) (by omega) h.nk h.no
  have lowW : Below base w W := (hb.mono (by omega)).trans (hbut.below (by omega) (fun g e => by
    rcases h.rk.2 with ⟨h', _⟩ | ⟨g', _, _, h', h'', _⟩
    · rw [h'] at e; cases e
    · rw [h'] at e; injection e with e; rw [← e]; exact h'') (fun g e => by
    rcases h.ro.2 with ⟨h', _⟩ | ⟨g', _, _, h', h'', _⟩
    · rw [h'] at e; cases e
    · rw [h'] at e; injection e with e; rw [← e]; exact h''))
  have gkb : base ≤ gk := (row_obj rk).choose_spec.1
  have gob : base ≤ go := (row_obj ro).choose_spec.1
  have gkl := ownsRow_lt rk (own_some _ _ _)
  have gol := ownsRow_lt ro (own_some _ _ _)
  refine ⟨(lowW.setCell (p := ⟨O, 0, none⟩) hbase _).setCell (p := ⟨O, 1, none⟩) hbase _, ?_, ?_, ?_, fun o => ?_, fun s hs => ⟨?_, ?_⟩, ?_, ?_, ?_, ?_, fun o => ?_, ?_, ?_, ⟨hne, gkO, goO, ?_, ?_, ?_, ?_, by omega, by omega, by omega⟩, ⟨by simp; omega, by simp; omega, by simp; omega, by simp; omega, by simp; omega, by simp; omega⟩, ⟨gkb, gob, hbase, by omega, by omega, by omega, by omega⟩, ?_, ?_⟩
  · rw [set_other (.inr (by omega))]
    exact set_same ((kO.1 0).trans hc.c0)
  · refine set_same (u := ov) ?_
    rw [set_other (.inr (by omega))]
    exact (kO.1 1).trans hc.c1
  · rw [set_other (.inr (by omega)), set_other (.inr (by omega))]
    exact (kO.1 2).trans hc.c2
  · rw [World.frozen?_setCell, World.frozen?_setCell]
    exact (kO.2 o).trans (hc.fz o)
  · rw [set_other (.inr (by omega)), set_other (.inr (by omega))]
    exact (kO.1 _).trans (hc.kept s hs).1
  · rw [set_other (.inr (by omega)), set_other (.inr (by omega))]
    exact (kO.1 _).trans (hc.kept s hs).2
  · rw [set_other (.inl (by omega)), set_other (.inl (by omega))]
    exact ((blk b10 (by omega) l2).1 0).trans x0
  · rw [set_other (.inl (by omega)), set_other (.inl (by omega))]
    exact ((blk b10 (by omega) l2).1 1).trans x1
  · rw [set_other (.inl (by omega)), set_other (.inl (by omega))]
    exact ((blk w.heap.size (by omega) (by omega)).1 0).trans r0
  · rw [set_other (.inl (by omega)), set_other (.inl (by omega))]
    exact ((blk w.heap.size (by omega) (by omega)).1 1).trans r1
  · rw [World.frozen?_setCell, World.frozen?_setCell]
    exact ((blk w.heap.size (by omega) (by omega)).2 o).trans (rz o)
  · exact ownsRow_set (ownsRow_set rk (g := O) (by rw [own_some]; simpa using gkO) _) (g := O) (by rw [own_some]; simpa using gkO) _
  · exact ownsRow_set (ownsRow_set ro (g := O) (by rw [own_some]; simpa using goO) _) (g := O) (by rw [own_some]; simpa using goO) _
  · rcases ck1 with ⟨_, e⟩ | e <;> omega
  · rcases co1 with ⟨_, e⟩ | e <;> omega
  · rcases ck1 with ⟨_, e⟩ | e <;> omega
  · rcases co1 with ⟨_, e⟩ | e <;> omega
  · exact h.hx.below ((lowW.setCell (p := ⟨O, 0, none⟩) hbase _).setCell (p := ⟨O, 1, none⟩) hbase _) (by omega)
  · show W.tape = w.tape
    rw [hbut.tape, hb.tape]

end Go.Proofs.Qxb6616638aGreatFmt
