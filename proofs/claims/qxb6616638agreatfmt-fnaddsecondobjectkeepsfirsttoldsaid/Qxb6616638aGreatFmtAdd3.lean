/-
  How add ends.
-/
import Derived.Test.Qxb6616638aGreatFmtAdd2
import Derived.Test.Qxb6616638aGreatFmtDrop
import Derived.Test.Qxb6616638aGreatFmtSortN
namespace Go.Proofs.Qxb6616638aGreatFmt
open Go.RowKit
open Go.Extern.Stop Go.Stop Go.Extern
open Plain
set_option linter.unusedVariables false
set_option maxRecDepth 100000

theorem sortNames_len {w : World} (F : Interp) {O B n cap gk at' : Nat} {bs : Nat → Nat} {es : List Ent} {js : List Nat} {lsE : Nat → List Nat} {k : Nat} (go off c ck len : Nat) (is : List Nat) (hl : is.length = len) (hF : F.answers w.tape) (h : KeyEnv w B n cap gk at' bs es js) (ho : Objt bs n es lsE k js)
    (his : ∀ i ∈ is, i < js.length) (h0 : 0 < js.length) (hgo : go < w.heap.size) (h4 : gk ≠ go) (h5 : B ≠ go)
    (hrow : ∀ i, i < len → w.cell? ⟨go, off + i, none⟩ = some (.int .u64 (is.getD i 0 : Nat)) ∧ w.frozen? ⟨go, off + i, none⟩ = false) (hlen : len ≤ 20000) :
    Calls Tryz.prog 35 #[.pointer (some ⟨O, 0, none⟩), .slice (some ⟨B, 0, none⟩) n cap, .slice (some ⟨gk, at' * 4, none⟩) js.length ck, .slice (some ⟨go, off, none⟩) len c] w (SortNGives w go off len (fun i => uOf bs es lsE (js.getD i 0)) is) := by
  subst hl
  exact sortNames_any F go off c ck is hF h ho his h0 hgo h4 h5 hrow hlen

variable {w w1 wr : World} {go first N : Nat} {fo : Nat → Nat} {base O B n cap gk ck co b8 b10 : Nat} {bs : Nat → Nat} {es : List Ent} {js : List Nat} {ks os_ : List Value}

theorem AM1.drewN (h : AM1 w w1 base O B n cap first gk go ck co b8 b10 bs es js ks os_) (q : Nat) : AM1 w (w1.drewN q) base O B n cap first gk go ck co b8 b10 bs es js ks os_ :=
  ⟨⟨h.low.os, h.low.tape, h.low.output, h.low.size, h.low.block⟩, h.o0, h.o1, h.o2, h.fz, h.kept, h.x0, h.x1, h.r0, h.r1, h.rz, h.rk, h.ro, h.ne, h.lt, h.ge, h.txt, h.tape⟩

/-- What the end of add reads. -/
structure Tail (w5 : World) (O first gk go ck co b8 b10 N : Nat) : Prop where
  x0 : w5.cell? ⟨b10, 0, none⟩ = some (.int .i32 (first : Int))
  x1 : w5.cell? ⟨b10, 1, none⟩ = some (.int .i32 0)
  r0 : w5.cell? ⟨b8, 0, none⟩ = some (.int .i32 0)
  r1 : w5.cell? ⟨b8, 1, none⟩ = some (.int .i32 0)
  z0 : w5.frozen? ⟨b8, 0, none⟩ = false
  z1 : w5.frozen? ⟨b8, 1, none⟩ = false
  o0 : w5.cell? ⟨O, 0, none⟩ = some (.slice (some ⟨gk, 0, none⟩) (first + N) ck)
  o1 : w5.cell? ⟨O, 1, none⟩ = some (.slice (some ⟨go, 0, none⟩) (first + N) co)
  o2 : w5.cell? ⟨O, 2, none⟩ = some (.slice none 0 0)
  fz : ∀ o, w5.frozen? ⟨O, o, none⟩ = false

theorem AM1.tail {w5 : World} (h : AM1 w w1 base O B n cap first gk go ck co b8 b10 bs es js ks os_) (hs : OrdSt w1 w5 go first js.length fo) : Tail w5 O first gk go ck co b8 b10 js.length := by
  obtain ⟨n1, n2, n3, n4, n5, n6, n7, n8, n9, n10⟩ := h.ne
  obtain ⟨l1, l2, l3, l4, l5, l6⟩ := h.lt
  exact ⟨(hs.but.cell l2 (by omega)).trans h.x0, (hs.but.cell l2 (by omega)).trans h.x1, (hs.but.cell l1 (by omega)).trans h.r0, (hs.but.cell l1 (by omega)).trans h.r1, (hs.but.frozen l1 (by omega)).trans (h.rz 0), (hs.but.frozen l1 (by omega)).trans (h.rz 1),
    (hs.but.cell l5 (by omega)).trans h.o0, (hs.but.cell l5 (by omega)).trans h.o1, (hs.but.cell l5 (by omega)).trans h.o2, fun o => (hs.but.frozen l5 (by omega)).trans (h.fz o)⟩

theorem AM1.ok {us : Nat → List Nat} {w5 wf : World} (h : AM1 w w1 base O B n cap first gk go ck co b8 b10 bs es js ks os_) (hs : OrdSt w1 w5 go first js.length fo) (hks : ks.length = first * 4) (hkz : ∀ v ∈ ks, ∃ z, v = .int .i32 z) (hos : os_.length = first) (hoz : ∀ v ∈ os_, ∃ z : Nat, v = .int .u64 (z : Int)) (hj : 0 < js.length)
    (hst : StrictP us ((List.range js.length).map fo)) (hp : ((List.range js.length).map fo).Perm (List.range js.length)) (hlow : Below base w5 wf) (hkeep : ∀ b o, b < w5.heap.size → b = gk ∨ b = go ∨ (b = O ∧ o < 3) → wf.cell? ⟨b, o, none⟩ = w5.cell? ⟨b, o, none⟩) :
    AddGives w base O first us bs es js (.returned (.tuple #[.agg #[.int .i32 (first : Int), .int .i32 0], .nilIface])) wf := by
  have ht := h.tail hs
  obtain ⟨n1, n2, n3, n4, n5, n6, n7, n8, n9, n10⟩ := h.ne
  obtain ⟨l1, l2, l3, l4, l5, l6⟩ := h.lt
  obtain ⟨g1, g2, g3, g4, g5, g6, g7⟩ := h.ge
  have hsz := hs.but.size
  have hsf := hlow.size
  obtain ⟨fk, fo', hN, h1, h2⟩ := h.nr hks hkz hos hoz (fo := fo) (wf := wf) hj ((hkeep O 0 (by omega) (.inr (.inr ⟨rfl, by omega⟩))).trans ht.o0) ((hkeep O 1 (by omega) (.inr (.inr ⟨rfl, by omega⟩))).trans ht.o1)
    (fun o => (hkeep gk o (by omega) (.inl rfl)).trans (hs.but.cell l3 n1)) (fun i hi => (hkeep go _ (by omega) (.inr (.inl rfl))).trans (hs.cell i hi)) (fun o ho => (hkeep go o (by omega) (.inr (.inl rfl))).trans (hs.out o (.inl ho))) (by omega)
  refine ⟨h.low.trans ((hs.but.below g2 (Nat.le_trans g7 h.low.size)).trans hlow), .inl ⟨rfl, _, fk, fo', hst, hp, hN, fun i hi => ?_, h2⟩⟩
  rw [h1 i hi]
  simp [List.getD_eq_getElem?_getD, hi]

theorem AM1.no {us : Nat → List Nat} {w5 w6 : World} {a : Addr} (h : AM1 w w1 base O B n cap first gk go ck co b8 b10 bs es js ks os_) (hs : OrdSt w1 w5 go first js.length fo) (hks : ks.length = first * 4) (hkz : ∀ v ∈ ks, ∃ z, v = .int .i32 z) (hos : os_.length = first) (hoz : ∀ v ∈ os_, ∃ z : Nat, v = .int .u64 (z : Int))
    (hal : ∃ x y, x < js.length ∧ y < js.length ∧ x ≠ y ∧ cmpU (us x) (us y) = 0) (hd : DropGives w5 O (.slice (some ⟨gk, 0, none⟩) first ck) (.slice (some ⟨go, 0, none⟩) first co) (.slice none 0 0) w6) (v0 v1 : Value) :
    AddGives w base O first us bs es js (.returned (.tuple #[.agg #[.int .i32 0, .int .i32 0], .iface 149 (.pointer (some a))])) ((w6.setCell ⟨b8, 0, none⟩ v0).setCell ⟨b8, 1, none⟩ v1) := by
  obtain ⟨n1, n2, n3, n4, n5, n6, n7, n8, n9, n10⟩ := h.ne
  obtain ⟨l1, l2, l3, l4, l5, l6⟩ := h.lt
  obtain ⟨g1, g2, g3, g4, g5, g6, g7⟩ := h.ge
  have hsz := hs.but.size
  have hs6 := hd.but.size
  have hw1 := h.low.size
  have kk : ∀ b o, b ≠ b8 → ((w6.setCell ⟨b8, 0, none⟩ v0).setCell ⟨b8, 1, none⟩ v1).cell? ⟨b, o, none⟩ = w6.cell? ⟨b, o, none⟩ := fun b o hb => by
    rw [set_other (.inl (by omega)), set_other (.inl (by omega))]
  refine ⟨h.low.trans ((hs.but.below g2 (by omega)).trans (((hd.but.below g3 (by omega)).setCell (p := ⟨b8, 0, none⟩) g4 _).setCell (p := ⟨b8, 1, none⟩) g4 _)), .inr ⟨⟨a, rfl⟩, hal, fun i f => intOf (ks.getD (i * 4 + f) .nilIface), fun i => (intOf (os_.getD i .nilIface)).toNat, ⟨?_, ⟨_, ck, gk, (kk O 0 (by omega)).trans hd.c0, fun _ => ⟨rfl, ?_⟩, fun i f hi hf => ?_⟩, ⟨_, co, (kk O 1 (by omega)).trans hd.c1, _, co, go, rfl, fun _ => ⟨rfl, ?_⟩, fun i hi => ?_⟩⟩⟩⟩
  · simp; omega
  · simp; omega
  · rw [kk gk _ (by omega), hd.but.cell (by omega) (by omega), hs.but.cell l3 n1, (row_at h.rk (i * 4 + f) (by omega)).1]
    have e2 : (ks ++ keysOf bs es js).getD (i * 4 + f) .nilIface = ks.getD (i * 4 + f) .nilIface := by
      rw [List.getD_eq_getElem?_getD, List.getElem?_append_left (by omega), List.getD_eq_getElem?_getD]
    have hm : ks.getD (i * 4 + f) .nilIface ∈ ks := by
      rw [List.getD_eq_getElem?_getD, List.getElem?_eq_getElem (by omega)]
      simp
    obtain ⟨z, hz⟩ := hkz _ hm
    rw [e2, hz]
    rfl
  · simp; omega
  · rw [kk go _ (by omega), hd.but.cell (by omega) (by omega), hs.out i (.inl hi), (row_at h.ro i (by omega)).1]
    have e2 : (os_ ++ ordOf bs es js).getD i .nilIface = os_.getD i .nilIface := by
      rw [List.getD_eq_getElem?_getD, List.getElem?_append_left (by omega), List.getD_eq_getElem?_getD]
    have hm : os_.getD i .nilIface ∈ os_ := by
      rw [List.getD_eq_getElem?_getD, List.getElem?_eq_getElem (by omega)]
      simp
    obtain ⟨z, hz⟩ := hoz _ hm
    show _ = some (Value.int .u64 (((intOf (os_.getD i .nilIface)).toNat : Nat) : Int))
    rw [e2, hz]
    simp [intOf]

end Go.Proofs.Qxb6616638aGreatFmt
