/-
  Statement 4: how add ends, all handed on that a second add wants.
-/
import Derived.Test.Qxb6616638aGreatFmtBdd2
namespace Go.Proofs.Qxb6616638aGreatFmt.Two
open Go.Proofs.Qxb6616638aGreatFmt
open Go.RowKit
open Go.Extern.Stop Go.Stop Go.Extern
open Plain
set_option linter.unusedVariables false
set_option maxRecDepth 100000

/-- A Names in memory: its two rows, nothing decoded. -/
structure NSt (w : World) (base O first : Nat) (kv ov : Value) (ks os_ : List Value) : Prop where
  hbase : base ≤ O
  c0 : w.cell? ⟨O, 0, none⟩ = some kv
  c1 : w.cell? ⟨O, 1, none⟩ = some ov
  c2 : w.cell? ⟨O, 2, none⟩ = some (.slice none 0 0)
  fz : ∀ o, w.frozen? ⟨O, o, none⟩ = false
  rk : w.ownsRow base 78 4 kv first ks
  ro : w.ownsRow base 36 1 ov first os_
  nk : kv.ownBlock ≠ some O
  no : ov.ownBlock ≠ some O
  nko : kv.ownBlock = none ∨ kv.ownBlock ≠ ov.ownBlock

/-- The order's values as cells. -/
def ordV (od : List Nat) : List Value := od.map (fun i => Value.int .u64 ((i : Nat) : Int))

/-- What add leaves: the names in order, or a refusal and all as before. -/
def AddGives (w : World) (base O first : Nat) (us : Nat → List Nat) (bs : Nat → Nat) (es : List Ent) (js : List Nat) (ks os_ : List Value) (K : Value → Value → World → World → Prop) (e : Ending) (w' : World) : Prop :=
  Below base w w' ∧ ((e = .returned (.tuple #[.agg #[.int .i32 (first : Int), .int .i32 0], .nilIface]) ∧ ∃ od kv ov, StrictP us od ∧ od.Perm (List.range js.length) ∧ NSt w' base O (first + js.length) kv ov (ks ++ keysOf bs es js) (os_ ++ ordV od) ∧ K kv ov w w') ∨
    ((∃ a, e = .returned (.tuple #[.agg #[.int .i32 0, .int .i32 0], .iface 149 (.pointer (some a))])) ∧ (∃ x y, x < js.length ∧ y < js.length ∧ x ≠ y ∧ cmpU (us x) (us y) = 0) ∧ ∃ kv ov, NSt w' base O first kv ov ks os_ ∧ ∀ o, 3 ≤ o → w'.cell? ⟨O, o, none⟩ = w.cell? ⟨O, o, none⟩))

/-- Names as they are read, out of its state. -/
theorem NSt.nr {w : World} {base O nk : Nat} {kv ov : Value} {ks os_ : List Value} (h : NSt w base O nk kv ov ks os_) (hkz : ∀ v ∈ ks, ∃ z, v = .int .i32 z) (hoz : ∀ v ∈ os_, ∃ z : Nat, v = .int .u64 (z : Int)) :
    NR w w.heap.size O nk (fun i f => intOf (ks.getD (i * 4 + f) .nilIface)) (fun i => (intOf (os_.getD i .nilIface)).toNat) := by
  have hO : O < w.heap.size := World.block_lt_of_cell? _ _ h.c0
  have lk : ks.length = nk * 4 := h.rk.1
  have lo : os_.length = nk := by simpa using h.ro.1
  by_cases hn : 0 < nk
  · obtain ⟨gk, ck, rfl⟩ := own_slice h.rk hn
    obtain ⟨go, co, rfl⟩ := own_slice h.ro hn
    refine ⟨hO, ⟨_, ck, gk, h.c0, fun _ => ⟨rfl, ownsRow_lt h.rk (own_some _ _ _)⟩, fun i f hi hf => ?_⟩, ⟨_, co, h.c1, _, co, go, rfl, fun _ => ⟨rfl, ownsRow_lt h.ro (own_some _ _ _)⟩, fun i hi => ?_⟩⟩
    · rw [(row_at h.rk (i * 4 + f) (by omega)).1]
      have hm : ks.getD (i * 4 + f) .nilIface ∈ ks := by
        rw [List.getD_eq_getElem?_getD, List.getElem?_eq_getElem (by omega)]
        simp
      obtain ⟨z, hz⟩ := hkz _ hm
      rw [hz]
      rfl
    · rw [(row_at h.ro i (by omega)).1]
      have hm : os_.getD i .nilIface ∈ os_ := by
        rw [List.getD_eq_getElem?_getD, List.getElem?_eq_getElem (by omega)]
        simp
      obtain ⟨z, hz⟩ := hoz _ hm
      show _ = some (Value.int .u64 (((intOf (os_.getD i .nilIface)).toNat : Nat) : Int))
      rw [hz]
      simp [intOf]
  · have e0 : nk = 0 := by omega
    subst e0
    obtain ⟨ak, lk', ck, ek⟩ := h.rk.isSlice
    obtain ⟨ao, lo', co, eo⟩ := h.ro.isSlice
    have e1 : lk' = 0 := by
      rcases h.rk.2 with ⟨h, h'⟩ | ⟨_, _, _, h, _⟩
      · rw [h] at ek; injection ek with _ e _; omega
      · rw [h] at ek; injection ek with _ e _; omega
    have e2 : lo' = 0 := by
      rcases h.ro.2 with ⟨h, h'⟩ | ⟨_, _, _, h, _⟩
      · rw [h] at eo; injection eo with _ e _; omega
      · rw [h] at eo; injection eo with _ e _; omega
    subst e1
    subst e2
    exact ⟨hO, ⟨ak, ck, 0, by rw [h.c0, ek], fun h => absurd h (Nat.lt_irrefl _), fun i f hi => absurd hi (Nat.not_lt_zero _)⟩, ⟨ao, co, by rw [h.c1, eo], ao, co, 0, rfl, fun h => absurd h (Nat.lt_irrefl _), fun i hi => absurd hi (Nat.not_lt_zero _)⟩⟩

variable {w w1 wr : World} {go first N : Nat} {fo : Nat → Nat} {base O B n cap gk ck co b8 b10 : Nat} {bs : Nat → Nat} {es : List Ent} {js : List Nat} {ks os_ : List Value} {kv ov : Value}

theorem AM1.drewN (h : AM1 w w1 base O B n cap first gk go ck co b8 b10 bs es js ks os_ kv ov) (q : Nat) : AM1 w (w1.drewN q) base O B n cap first gk go ck co b8 b10 bs es js ks os_ kv ov :=
  ⟨⟨h.low.os, h.low.tape, h.low.output, h.low.size, h.low.block⟩, h.o0, h.o1, h.o2, h.fz, h.keep, h.blocks, h.x0, h.x1, h.r0, h.r1, h.rz, h.rk, h.ro, h.ne, h.lt, h.ge, h.txt, h.tape, h.fromk, h.fromo⟩

theorem AM1.tail {w5 : World} (h : AM1 w w1 base O B n cap first gk go ck co b8 b10 bs es js ks os_ kv ov) (hs : OrdSt w1 w5 go first js.length fo) : Tail w5 O first gk go ck co b8 b10 js.length := by
  obtain ⟨n1, n2, n3, n4, n5, n6, n7, n8, n9, n10⟩ := h.ne
  obtain ⟨l1, l2, l3, l4, l5, l6⟩ := h.lt
  exact ⟨(hs.but.cell l2 (by omega)).trans h.x0, (hs.but.cell l2 (by omega)).trans h.x1, (hs.but.cell l1 (by omega)).trans h.r0, (hs.but.cell l1 (by omega)).trans h.r1, (hs.but.frozen l1 (by omega)).trans (h.rz 0), (hs.but.frozen l1 (by omega)).trans (h.rz 1),
    (hs.but.cell l5 (by omega)).trans h.o0, (hs.but.cell l5 (by omega)).trans h.o1, (hs.but.cell l5 (by omega)).trans h.o2, fun o => (hs.but.frozen l5 (by omega)).trans (h.fz o)⟩

/-- wf is w5 but for the blocks O (cells from 3 on), b8, x and new ones. -/
structure EndF (w5 wf : World) (O b8 : Nat) (x : Option Nat) : Prop where
  os : wf.os = w5.os
  tape : wf.tape = w5.tape
  output : wf.output = w5.output
  size : w5.heap.size ≤ wf.heap.size
  block : ∀ k, k < w5.heap.size → k ≠ O → k ≠ b8 → some k ≠ x → wf.heap[k]? = w5.heap[k]?
  low : ∀ o, o < 3 → wf.cell? ⟨O, o, none⟩ = w5.cell? ⟨O, o, none⟩
  fz : ∀ o, wf.frozen? ⟨O, o, none⟩ = w5.frozen? ⟨O, o, none⟩

theorem ownsRow_heap {w w' : World} {base : Nat} {e : TypeId} {sz : Nat} {v : Value} {n : Nat} {xs : List Value} (h : w.ownsRow base e sz v n xs) (hb : ∀ g, v.ownBlock = some g → w'.heap[g]? = w.heap[g]?) : w'.ownsRow base e sz v n xs := by
  refine ⟨h.1, ?_⟩
  rcases h.2 with h1 | ⟨g', cap, cur, rfl, h2, h3, h4⟩
  · exact .inl h1
  · exact .inr ⟨g', cap, cur, rfl, h2, (hb g' rfl).trans h3, h4⟩

theorem AM1.ok {us : Nat → List Nat} {w5 wf : World} {x : Option Nat} {K : Value → Value → World → World → Prop} (h : AM1 w w1 base O B n cap first gk go ck co b8 b10 bs es js ks os_ kv ov) (hs : OrdSt w1 w5 go first js.length fo) (hos : os_.length = first)
    (hst : StrictP us ((List.range js.length).map fo)) (hp : ((List.range js.length).map fo).Perm (List.range js.length)) (hf : EndF w5 wf O b8 x) (hx : ∀ g, x = some g → base ≤ g ∧ g ≠ gk ∧ g ≠ go) (hK : K (.slice (some ⟨gk, 0, none⟩) (first + js.length) ck) (.slice (some ⟨go, 0, none⟩) (first + js.length) co) w wf) :
    AddGives w base O first us bs es js ks os_ K (.returned (.tuple #[.agg #[.int .i32 (first : Int), .int .i32 0], .nilIface])) wf := by
  have ht := h.tail hs
  obtain ⟨n1, n2, n3, n4, n5, n6, n7, n8, n9, n10⟩ := h.ne
  obtain ⟨l1, l2, l3, l4, l5, l6⟩ := h.lt
  obtain ⟨g1, g2, g3, g4, g5, g6, g7⟩ := h.ge
  have hsz := hs.but.size
  have hsf := hf.size
  have hlw := h.low.size
  have b5 : Below base w5 wf := ⟨hf.os, hf.tape, hf.output, hf.size, fun k hk => hf.block k (by omega) (by omega) (by omega) (fun e => by have := (hx k e.symm).1; omega)⟩
  refine ⟨h.low.trans ((hs.but.below g2 (by omega)).trans b5), .inl ⟨rfl, (List.range js.length).map fo, .slice (some ⟨gk, 0, none⟩) (first + js.length) ck, .slice (some ⟨go, 0, none⟩) (first + js.length) co, hst, hp, ⟨g3, (hf.low 0 (by omega)).trans ht.o0, (hf.low 1 (by omega)).trans ht.o1, (hf.low 2 (by omega)).trans ht.o2, fun o => (hf.fz o).trans (ht.fz o), ?_, ?_, by rw [own_some]; simpa using n2, by rw [own_some]; simpa using n3, .inr (by rw [own_some, own_some]; simpa using n1)⟩, hK⟩⟩
  · refine ownsRow_heap h.rk (fun g e => ?_)
    have e' : gk = g := by injection e
    subst e'
    rw [hf.block gk (by omega) n2 n4 (fun e => (hx gk e.symm).2.1 rfl)]
    exact hs.but.block gk l3 n1
  · have hr := hs.row h.ro hos
    unfold ordV
    rw [List.map_map]
    refine ownsRow_heap hr (fun g e => ?_)
    have e' : go = g := by injection e
    subst e'
    exact hf.block go (by omega) n3 n5 (fun e => (hx go e.symm).2.2 rfl)

theorem take_first {w : World} {base : Nat} {e : TypeId} {sz g m n cap : Nat} {xs ys : List Value} (h : w.ownsRow base e sz (.slice (some ⟨g, 0, none⟩) n cap) n (xs ++ ys)) (hm : m ≤ n) (hl : xs.length = m * sz) : w.ownsRow base e sz (.slice (some ⟨g, 0, none⟩) m cap) m xs := by
  obtain ⟨cur, h1, h2, h3, h4, h5, h6⟩ := row_obj h
  refine ⟨hl, .inr ⟨g, cap, cur, rfl, h1, h2, by omega, h4, h5, ?_⟩⟩
  have := congrArg (fun l => l.take (m * sz)) h6
  simp only [List.take_take] at this
  rw [Nat.min_eq_left (Nat.mul_le_mul_right _ hm)] at this
  rw [this, ← hl]
  simp

theorem AM1.no {us : Nat → List Nat} {w5 w6 : World} {a : Addr} {K : Value → Value → World → World → Prop} (h : AM1 w w1 base O B n cap first gk go ck co b8 b10 bs es js ks os_ kv ov) (hs : OrdSt w1 w5 go first js.length fo) (hks : ks.length = first * 4) (hos : os_.length = first)
    (hal : ∃ x y, x < js.length ∧ y < js.length ∧ x ≠ y ∧ cmpU (us x) (us y) = 0) (hd : DropGives w5 O (.slice (some ⟨gk, 0, none⟩) first ck) (.slice (some ⟨go, 0, none⟩) first co) (.slice none 0 0) w6) (v0 v1 : Value) :
    AddGives w base O first us bs es js ks os_ K (.returned (.tuple #[.agg #[.int .i32 0, .int .i32 0], .iface 149 (.pointer (some a))])) ((w6.setCell ⟨b8, 0, none⟩ v0).setCell ⟨b8, 1, none⟩ v1) := by
  obtain ⟨n1, n2, n3, n4, n5, n6, n7, n8, n9, n10⟩ := h.ne
  obtain ⟨l1, l2, l3, l4, l5, l6⟩ := h.lt
  obtain ⟨g1, g2, g3, g4, g5, g6, g7⟩ := h.ge
  have hsz := hs.but.size
  have hs6 := hd.but.size
  have hw1 := h.low.size
  have ht := h.tail hs
  have kk : ∀ b o, b ≠ b8 → ((w6.setCell ⟨b8, 0, none⟩ v0).setCell ⟨b8, 1, none⟩ v1).cell? ⟨b, o, none⟩ = w6.cell? ⟨b, o, none⟩ := fun b o hb => by
    rw [set_other (.inl (by omega)), set_other (.inl (by omega))]
  have kh : ∀ b, b ≠ b8 → ((w6.setCell ⟨b8, 0, none⟩ v0).setCell ⟨b8, 1, none⟩ v1).heap[b]? = w6.heap[b]? := fun b hb => by
    rw [Below.heap_setCell _ _ _ b hb, Below.heap_setCell _ _ _ b hb]
  refine ⟨h.low.trans ((hs.but.below g2 (by omega)).trans (((hd.but.below g3 (by omega)).setCell (p := ⟨b8, 0, none⟩) g4 _).setCell (p := ⟨b8, 1, none⟩) g4 _)), .inr ⟨⟨a, rfl⟩, hal, .slice (some ⟨gk, 0, none⟩) first ck, .slice (some ⟨go, 0, none⟩) first co, ⟨g3, (kk O 0 (by omega)).trans hd.c0, (kk O 1 (by omega)).trans hd.c1, (kk O 2 (by omega)).trans hd.c2, fun o => ?_, ?_, ?_, by rw [own_some]; simpa using n2, by rw [own_some]; simpa using n3, .inr (by rw [own_some, own_some]; simpa using n1)⟩, fun o ho => ?_⟩⟩
  · rw [World.frozen?_setCell, World.frozen?_setCell, hd.free]
    exact ht.fz o
  · refine ownsRow_heap (take_first h.rk (by omega) hks) (fun g e => ?_)
    have e' : gk = g := by injection e
    subst e'
    rw [kh gk n4, hd.but.block gk (by omega) n2, hs.but.block gk l3 n1]
  · refine ownsRow_heap (take_first (hs.row h.ro hos) (by omega) (by simpa using hos)) (fun g e => ?_)
    have e' : go = g := by injection e
    subst e'
    rw [kh go n5, hd.but.block go (by omega) n3]
  · rw [kk O o (by omega), hd.out o ho, hs.but.cell l5 (by omega)]
    exact h.keep o (by omega)

end Go.Proofs.Qxb6616638aGreatFmt.Two
