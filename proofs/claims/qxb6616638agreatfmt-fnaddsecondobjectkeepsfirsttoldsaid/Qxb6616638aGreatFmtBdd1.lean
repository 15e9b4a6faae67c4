/-
  Statement 4: what add is given and how memory lies behind addMembers, the kept orders apart.
-/
import Derived.Test.Qxb6616638aGreatFmtInOrd
namespace Go.Proofs.Qxb6616638aGreatFmt.Two
open Go.Proofs.Qxb6616638aGreatFmt
open Go.RowKit
open Plain
set_option linter.unusedVariables false
set_option maxRecDepth 100000

structure AddEnv (w : World) (base bd O D B n cap k first q : Nat) (bs : Nat → Nat) (es : List Ent) (js : List Nat) (kv ov : Value) (ks os_ : List Value) : Prop where
  hT : NT w bd D es
  hx : Txt w B n bs
  hB : B < bd
  hbd : bd ≤ base
  hbase : base ≤ O
  hn : n ≤ 16383
  hcap : n ≤ cap
  hbu : Built bs n es
  hk : k < es.length
  hq : (at_ es k).en = q
  hql : q < es.length
  hch : Chain bs n es k (k + 1) js q
  hfirst : first ≤ 8191
  c0 : w.cell? ⟨O, 0, none⟩ = some kv
  c1 : w.cell? ⟨O, 1, none⟩ = some ov
  c2 : w.cell? ⟨O, 2, none⟩ = some (.slice none 0 0)
  fz : ∀ o, w.frozen? ⟨O, o, none⟩ = false
  rk : w.ownsRow base 78 4 kv first ks
  ro : w.ownsRow base 36 1 ov first os_
  nk : kv.ownBlock ≠ some O
  no : ov.ownBlock ≠ some O
  nko : kv.ownBlock = none ∨ kv.ownBlock ≠ ov.ownBlock

theorem AddEnv.lt {w : World} {base bd O D B n cap k first q : Nat} {bs : Nat → Nat} {es : List Ent} {js : List Nat} {kv ov : Value} {ks os_ : List Value} (h : AddEnv w base bd O D B n cap k first q bs es js kv ov ks os_) : O < w.heap.size := World.block_lt_of_cell? _ _ h.c0

theorem AddEnv.below {w w' : World} {base bd O D B n cap k first q : Nat} {bs : Nat → Nat} {es : List Ent} {js : List Nat} {kv ov : Value} {ks os_ : List Value} (h : AddEnv w base bd O D B n cap k first q bs es js kv ov ks os_) (hb : Below w.heap.size w w') :
    AddEnv w' base bd O D B n cap k first q bs es js kv ov ks os_ := by
  have hO := h.lt
  have h1 := h.hbd
  have h2 := h.hbase
  have h3 := h.hB
  exact ⟨h.hT.below (hb.mono (by omega)), h.hx.below hb (by omega), h.hB, h.hbd, h.hbase, h.hn, h.hcap, h.hbu, h.hk, h.hq, h.hql, h.hch, h.hfirst, (hb.cell (p := ⟨O, 0, none⟩) hO).trans h.c0, (hb.cell (p := ⟨O, 1, none⟩) hO).trans h.c1, (hb.cell (p := ⟨O, 2, none⟩) hO).trans h.c2,
    fun o => (hb.frozen (p := ⟨O, o, none⟩) hO).trans (h.fz o), ownsRow_below h.rk hb, ownsRow_below h.ro hb, h.nk, h.no, h.nko⟩

structure AM1 (w w1 : World) (base O B n cap first gk go ck co b8 b10 : Nat) (bs : Nat → Nat) (es : List Ent) (js : List Nat) (ks os_ : List Value) (kvOf ovOf : Value) : Prop where
  low : Below base w w1
  o0 : w1.cell? ⟨O, 0, none⟩ = some (.slice (some ⟨gk, 0, none⟩) (first + js.length) ck)
  o1 : w1.cell? ⟨O, 1, none⟩ = some (.slice (some ⟨go, 0, none⟩) (first + js.length) co)
  o2 : w1.cell? ⟨O, 2, none⟩ = some (.slice none 0 0)
  fz : ∀ o, w1.frozen? ⟨O, o, none⟩ = false
  keep : ∀ o, 2 ≤ o → w1.cell? ⟨O, o, none⟩ = w.cell? ⟨O, o, none⟩
  blocks : ∀ g, g < w.heap.size → g ≠ O → g ≠ gk → g ≠ go → (∀ kv ov : Value, kvOf = kv → ovOf = ov → kv.ownBlock ≠ some g → ov.ownBlock ≠ some g → w1.heap[g]? = w.heap[g]?)
  x0 : w1.cell? ⟨b10, 0, none⟩ = some (.int .i32 (first : Int))
  x1 : w1.cell? ⟨b10, 1, none⟩ = some (.int .i32 0)
  r0 : w1.cell? ⟨b8, 0, none⟩ = some (.int .i32 0)
  r1 : w1.cell? ⟨b8, 1, none⟩ = some (.int .i32 0)
  rz : ∀ o, w1.frozen? ⟨b8, o, none⟩ = false
  rk : w1.ownsRow base 78 4 (.slice (some ⟨gk, 0, none⟩) (first + js.length) ck) (first + js.length) (ks ++ keysOf bs es js)
  ro : w1.ownsRow base 36 1 (.slice (some ⟨go, 0, none⟩) (first + js.length) co) (first + js.length) (os_ ++ ordOf bs es js)
  ne : gk ≠ go ∧ gk ≠ O ∧ go ≠ O ∧ gk ≠ b8 ∧ go ≠ b8 ∧ gk ≠ b10 ∧ go ≠ b10 ∧ O ≠ b8 ∧ O ≠ b10 ∧ b8 ≠ b10
  lt : b8 < w1.heap.size ∧ b10 < w1.heap.size ∧ gk < w1.heap.size ∧ go < w1.heap.size ∧ O < w1.heap.size ∧ B < w1.heap.size
  ge : base ≤ gk ∧ base ≤ go ∧ base ≤ O ∧ base ≤ b8 ∧ base ≤ b10 ∧ B < base ∧ base ≤ w.heap.size
  txt : Txt w1 B n bs
  tape : w1.tape = w.tape
  fromk : kvOf.ownBlock = some gk ∨ w.heap.size ≤ gk
  fromo : ovOf.ownBlock = some go ∨ w.heap.size ≤ go

theorem AM1.of {w wc W : World} {base bd O D B n cap k first q gk go ck co b10 : Nat} {bs : Nat → Nat} {es : List Ent} {js : List Nat} {kv ov : Value} {ks os_ : List Value} (h : AddEnv w base bd O D B n cap k first q bs es js kv ov ks os_)
    (x0 : wc.cell? ⟨b10, 0, none⟩ = some (.int .i32 (first : Int))) (x1 : wc.cell? ⟨b10, 1, none⟩ = some (.int .i32 0)) (l1 : w.heap.size < b10) (l2 : b10 < wc.heap.size) (r0 : wc.cell? ⟨w.heap.size, 0, none⟩ = some (.int .i32 0)) (r1 : wc.cell? ⟨w.heap.size, 1, none⟩ = some (.int .i32 0))
    (rz : ∀ o, wc.frozen? ⟨w.heap.size, o, none⟩ = false) (hb : Below w.heap.size w wc) (hbut : But2 wc W kv ov) (rk : W.ownsRow base 78 4 (.slice (some ⟨gk, 0, none⟩) (first + js.length) ck) (first + js.length) (ks ++ keysOf bs es js))
    (ro : W.ownsRow base 36 1 (.slice (some ⟨go, 0, none⟩) (first + js.length) co) (first + js.length) (os_ ++ ordOf bs es js)) (sk : Since wc kv (.slice (some ⟨gk, 0, none⟩) (first + js.length) ck)) (so : Since wc ov (.slice (some ⟨go, 0, none⟩) (first + js.length) co)) (hne : gk ≠ go) :
    AM1 w ((W.setCell ⟨O, 0, none⟩ (.slice (some ⟨gk, 0, none⟩) (first + js.length) ck)).setCell ⟨O, 1, none⟩ (.slice (some ⟨go, 0, none⟩) (first + js.length) co)) base O B n cap first gk go ck co w.heap.size b10 bs es js ks os_ kv ov := by
  have hc := h.below hb
  have hO := h.lt
  have hsc := hb.size
  have hsW := hbut.size
  have hbd := h.hbd
  have hbase := h.hbase
  have hB := h.hB
  have ck1 := since_cases h.rk sk
  have co1 := since_cases h.ro so
  have gkO : gk ≠ O := by
    rcases ck1 with ⟨e, _⟩ | e
    · intro e'; rw [e'] at e; exact h.nk e
    · omega
  have goO : go ≠ O := by
    rcases co1 with ⟨e, _⟩ | e
    · intro e'; rw [e'] at e; exact h.no e
    · omega
  have blk : ∀ g, w.heap.size ≤ g → g < wc.heap.size → (∀ o, W.cell? ⟨g, o, none⟩ = wc.cell? ⟨g, o, none⟩) ∧ ∀ o, W.frozen? ⟨g, o, none⟩ = wc.frozen? ⟨g, o, none⟩ := by
    intro g hg hg'
    refine hbut.keep hg' (fun e => ?_) (fun e => ?_)
    · have := ownsRow_lt h.rk e; omega
    · have := ownsRow_lt h.ro e; omega
  have kO := hbut.keep (O := O) (by omega) h.nk h.no
  have lowW : Below base w W := (hb.mono (by omega)).trans (hbut.below (by omega) (fun g e => by
    rcases h.rk.2 with ⟨h', _⟩ | ⟨g', _, _, h', h'', _⟩
    · rw [h'] at e; cases e
    · rw [h'] at e; injection e with e; rw [← e]; exact h'') (fun g e => by
    rcases h.ro.2 with ⟨h', _⟩ | ⟨g', _, _, h', h'', _⟩
    · rw [h'] at e; cases e
    · rw [h'] at e; injection e with e; rw [← e]; exact h''))
  have gkb : base ≤ gk := (row_obj rk).choose_spec.1
  have gob : base ≤ go := (row_obj ro).choose_spec.1
  have gkl := ownsRow_lt rk (own_some _ _ _)
  have gol := ownsRow_lt ro (own_some _ _ _)
  refine ⟨(lowW.setCell (p := ⟨O, 0, none⟩) hbase _).setCell (p := ⟨O, 1, none⟩) hbase _, ?_, ?_, ?_, fun o => ?_, fun o ho => ?_, fun g hg n1 n2 n3 kv' ov' e1 e2 q1 q2 => ?_, ?_, ?_, ?_, ?_, fun o => ?_, ?_, ?_, ⟨hne, gkO, goO, ?_, ?_, ?_, ?_, by omega, by omega, by omega⟩, ⟨by simp; omega, by simp; omega, by simp; omega, by simp; omega, by simp; omega, by simp; omega⟩, ⟨gkb, gob, hbase, by omega, by omega, by omega, by omega⟩, ?_, ?_, ?_, ?_⟩
  · rw [set_other (.inr (by omega))]
    exact set_same ((kO.1 0).trans hc.c0)
  · refine set_same (u := ov) ?_
    rw [set_other (.inr (by omega))]
    exact (kO.1 1).trans hc.c1
  · rw [set_other (.inr (by omega)), set_other (.inr (by omega))]
    exact (kO.1 2).trans hc.c2
  · rw [World.frozen?_setCell, World.frozen?_setCell]
    exact (kO.2 o).trans (hc.fz o)
  · rw [set_other (.inr (by omega)), set_other (.inr (by omega))]
    exact (kO.1 o).trans (hb.cell (p := ⟨O, o, none⟩) hO)
  · subst e1
    subst e2
    rw [Below.heap_setCell _ _ _ g n1, Below.heap_setCell _ _ _ g n1, hbut.block g (by omega) (fun e => q1 e.symm) (fun e => q2 e.symm)]
    exact hb.block g hg
  · rw [set_other (.inl (by omega)), set_other (.inl (by omega))]
    exact ((blk b10 (by omega) l2).1 0).trans x0
  · rw [set_other (.inl (by omega)), set_other (.inl (by omega))]
    exact ((blk b10 (by omega) l2).1 1).trans x1
  · rw [set_other (.inl (by omega)), set_other (.inl (by omega))]
    exact ((blk w.heap.size (by omega) (by omega)).1 0).trans r0
  · rw [set_other (.inl (by omega)), set_other (.inl (by omega))]
    exact ((blk w.heap.size (by omega) (by omega)).1 1).trans r1
  · rw [World.frozen?_setCell, World.frozen?_setCell]
    exact ((blk w.heap.size (by omega) (by omega)).2 o).trans (rz o)
  · exact ownsRow_set (ownsRow_set rk (g := O) (by rw [own_some]; simpa using gkO) _) (g := O) (by rw [own_some]; simpa using gkO) _
  · exact ownsRow_set (ownsRow_set ro (g := O) (by rw [own_some]; simpa using goO) _) (g := O) (by rw [own_some]; simpa using goO) _
  · rcases ck1 with ⟨_, e⟩ | e <;> omega
  · rcases co1 with ⟨_, e⟩ | e <;> omega
  · rcases ck1 with ⟨_, e⟩ | e <;> omega
  · rcases co1 with ⟨_, e⟩ | e <;> omega
  · exact h.hx.below ((lowW.setCell (p := ⟨O, 0, none⟩) hbase _).setCell (p := ⟨O, 1, none⟩) hbase _) (by omega)
  · show W.tape = w.tape
    rw [hbut.tape, hb.tape]
  · rcases ck1 with ⟨e, _⟩ | e
    · exact .inl e
    · exact .inr (by omega)
  · rcases co1 with ⟨e, _⟩ | e
    · exact .inl e
    · exact .inr (by omega)

end Go.Proofs.Qxb6616638aGreatFmt.Two
