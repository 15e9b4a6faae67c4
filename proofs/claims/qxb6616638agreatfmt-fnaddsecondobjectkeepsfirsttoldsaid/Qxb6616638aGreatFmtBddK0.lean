/-
  Statement 4: a kept order that is there already: how it lies, how it is written anew.
-/
import Derived.Test.Qxb6616638aGreatFmtBdd4
import Derived.Test.Qxb6616638aGreatFmtPush
namespace Go.Proofs.Qxb6616638aGreatFmt.Two
open Go.Proofs.Qxb6616638aGreatFmt
open Go.RowKit
open Plain
set_option linter.unusedVariables false
set_option maxRecDepth 100000

theorem len_le : ∀ (N : Nat) (xs : List Nat), xs.Nodup → (∀ x ∈ xs, x < N) → xs.length ≤ N
  | 0, xs, _, h => by
    cases xs with
    | nil => simp
    | cons a t => exact absurd (h a (by simp)) (by omega)
  | N + 1, xs, hn, h => by
    by_cases hm : N ∈ xs
    · have h1 := len_le N (xs.erase N) (hn.erase N) (fun x hx => by
        have hx' := (List.Nodup.mem_erase_iff hn).1 hx
        have := h x hx'.2
        omega)
      rw [List.length_erase_of_mem hm] at h1
      omega
    · have h1 := len_le N xs hn (fun x hx => by
        have := h x hx
        have : x ≠ N := fun e => hm (e ▸ hx)
        omega)
      omega

theorem perm_range : ∀ (N : Nat) (xs : List Nat), xs.Nodup → (∀ x ∈ xs, x < N) → xs.length = N → xs.Perm (List.range N)
  | 0, xs, _, _, hl => by rw [List.length_eq_zero_iff.1 hl]; exact List.Perm.refl _
  | N + 1, xs, hn, h, hl => by
    have hm : N ∈ xs := by
      rcases Classical.em (N ∈ xs) with hm | hm
      · exact hm
      · have h1 := len_le N xs hn (fun x hx => by
          have := h x hx
          have : x ≠ N := fun e => hm (e ▸ hx)
          omega)
        omega
    have h1 := perm_range N (xs.erase N) (hn.erase N) (fun x hx => by
      have hx' := (List.Nodup.mem_erase_iff hn).1 hx
      have := h x hx'.2
      omega) (by rw [List.length_erase_of_mem hm]; omega)
    rw [List.range_succ]
    exact (List.perm_cons_erase hm).trans ((h1.cons N).trans (List.perm_append_singleton N (List.range N)).symm)

theorem strict_perm {us : Nat → List Nat} {N : Nat} {xs : List Nat} (hs : StrictP us xs) (h : ∀ x ∈ xs, x < N) (hl : xs.length = N) : xs.Perm (List.range N) := by
  refine perm_range N xs ?_ h hl
  rw [List.nodup_iff_pairwise_ne]
  refine List.Pairwise.imp ?_ hs
  intro a b hab e
  subst e
  rw [cmpU_self] at hab
  omega

/-- A slot of the kept orders. -/
structure SlotAt (w : World) (base O s : Nat) (kv ov : Value) (hs : Int) (v : Value) (xs : List Nat) : Prop where
  c0 : w.cell? ⟨O, 3 + s * 2, none⟩ = some (.int .u64 hs)
  c1 : w.cell? ⟨O, 3 + s * 2 + 1, none⟩ = some v
  row : w.ownsRow base 5 1 v xs.length (xs.map (fun (x : Nat) => Value.int .u8 (x : Int)))
  lt : ∀ x ∈ xs, x < xs.length
  neO : v.ownBlock ≠ some O
  nek : v.ownBlock = none ∨ v.ownBlock ≠ kv.ownBlock
  neo : v.ownBlock = none ∨ v.ownBlock ≠ ov.ownBlock

def Slots (w : World) (base O : Nat) (kv ov : Value) : Prop := ∀ s, s < 256 → ∃ hs v xs, SlotAt w base O s kv ov hs v xs

theorem slots_fresh {w : World} {base O : Nat} {kv ov : Value} (h : Fresh w O) : Slots w base O kv ov := fun s hs =>
  ⟨0, .slice none 0 0, [], (h s hs).1, (h s hs).2, ⟨rfl, .inl ⟨rfl, rfl⟩⟩, fun x hx => (by cases hx), by simp [Value.ownBlock], .inl rfl, .inl rfl⟩

variable {w w1 wr : World} {go first N : Nat} {fo : Nat → Nat} {base O B n cap gk ck co b8 b10 : Nat} {bs : Nat → Nat} {es : List Ent} {js : List Nat} {ks os_ : List Value} {kv ov : Value}

theorem SlotAt.after {s : Nat} {hs : Int} {v : Value} {xs : List Nat} (h : SlotAt w base O s kv ov hs v xs) (hA : AM1 w w1 base O B n cap first gk go ck co b8 b10 bs es js ks os_ kv ov) :
    SlotAt w1 base O s (.slice (some ⟨gk, 0, none⟩) (first + js.length) ck) (.slice (some ⟨go, 0, none⟩) (first + js.length) co) hs v xs ∧ ∀ g, v.ownBlock = some g → g < w.heap.size ∧ g ≠ gk ∧ g ≠ go ∧ g ≠ O := by
  have key : ∀ g, v.ownBlock = some g → g < w.heap.size ∧ g ≠ gk ∧ g ≠ go ∧ g ≠ O := by
    intro g e
    have hl := ownsRow_lt h.row e
    refine ⟨hl, fun e' => ?_, fun e' => ?_, fun e' => h.neO (by rw [e, e'])⟩
    · rcases hA.fromk with hk | hk
      · rcases h.nek with hh | hh
        · rw [hh] at e; cases e
        · exact hh (by rw [e, hk, e'])
      · omega
    · rcases hA.fromo with hk | hk
      · rcases h.neo with hh | hh
        · rw [hh] at e; cases e
        · exact hh (by rw [e, hk, e'])
      · omega
  refine ⟨⟨(hA.keep _ (by omega)).trans h.c0, (hA.keep _ (by omega)).trans h.c1, ?_, h.lt, h.neO, ?_, ?_⟩, key⟩
  · refine ownsRow_heap h.row (fun g e => ?_)
    obtain ⟨k1, k2, k3, k4⟩ := key g e
    refine hA.blocks g k1 k4 k2 k3 kv ov rfl rfl (fun e' => ?_) (fun e' => ?_)
    · rcases h.nek with hh | hh
      · rw [hh] at e; cases e
      · exact hh (by rw [e, e'])
    · rcases h.neo with hh | hh
      · rw [hh] at e; cases e
      · exact hh (by rw [e, e'])
  · rcases hv : v.ownBlock with _ | g
    · exact .inl rfl
    · exact .inr (by rw [own_some]; simpa using (key g hv).2.1)
  · rcases hv : v.ownBlock with _ | g
    · exact .inl rfl
    · exact .inr (by rw [own_some]; simpa using (key g hv).2.2.1)

theorem AM1.after {w2 : World} (h : AM1 w w1 base O B n cap first gk go ck co b8 b10 bs es js ks os_ kv ov) (hb : Below w1.heap.size w1 w2) : AM1 w w2 base O B n cap first gk go ck co b8 b10 bs es js ks os_ kv ov := by
  obtain ⟨l1, l2, l3, l4, l5, l6⟩ := h.lt
  have hs := hb.size
  have g7 := h.ge.2.2.2.2.2.2
  have hl := h.low.size
  refine ⟨h.low.trans (hb.mono (by omega)), (hb.cell (p := ⟨O, 0, none⟩) l5).trans h.o0, (hb.cell (p := ⟨O, 1, none⟩) l5).trans h.o1, (hb.cell (p := ⟨O, 2, none⟩) l5).trans h.o2, fun o => (hb.frozen (p := ⟨O, o, none⟩) l5).trans (h.fz o), fun o ho => (hb.cell (p := ⟨O, o, none⟩) l5).trans (h.keep o ho),
    fun g hg n1 n2 n3 kv' ov' e1 e2 q1 q2 => (hb.block g (by omega)).trans (h.blocks g hg n1 n2 n3 kv' ov' e1 e2 q1 q2), (hb.cell (p := ⟨b10, 0, none⟩) l2).trans h.x0, (hb.cell (p := ⟨b10, 1, none⟩) l2).trans h.x1, (hb.cell (p := ⟨b8, 0, none⟩) l1).trans h.r0, (hb.cell (p := ⟨b8, 1, none⟩) l1).trans h.r1, fun o => (hb.frozen (p := ⟨b8, o, none⟩) l1).trans (h.rz o),
    ownsRow_below h.rk hb, ownsRow_below h.ro hb, h.ne, ⟨by omega, by omega, by omega, by omega, by omega, by omega⟩, h.ge, h.txt.below hb l6, hb.tape.trans h.tape, h.fromk, h.fromo⟩

/-- The kept order while it is written: v0 is what the slot held. -/
structure KS (wr wz : World) (base O p i : Nat) (v0 v : Value) (xs : List Value) : Prop where
  os : wz.os = wr.os
  tape : wz.tape = wr.tape
  output : wz.output = wr.output
  size : wr.heap.size ≤ wz.heap.size
  block : ∀ k, k < wr.heap.size → k ≠ O → some k ≠ v0.ownBlock → wz.heap[k]? = wr.heap[k]?
  low : ∀ o, o < 3 → wz.cell? ⟨O, o, none⟩ = wr.cell? ⟨O, o, none⟩
  fz : ∀ o, wz.frozen? ⟨O, o, none⟩ = wr.frozen? ⟨O, o, none⟩
  cell : wz.cell? ⟨O, p, none⟩ = some v
  out : ∀ o, 3 ≤ o → o ≠ p → o + 1 ≠ p → wz.cell? ⟨O, o, none⟩ = wr.cell? ⟨O, o, none⟩
  row : wz.ownsRow base 5 1 v i xs
  since : v.ownBlock = v0.ownBlock ∨ ∃ g, v.ownBlock = some g ∧ wr.heap.size ≤ g

theorem KS.of {wr : World} {base O q : Nat} {a : Option Addr} {l c : Nat} {h0 : Value} {xs : List Value} (hq : 3 ≤ q) (e1 : wr.cell? ⟨O, q + 1, none⟩ = some (.slice a l c)) (hr : wr.ownsRow base 5 1 (.slice a l c) l xs) (hO : (Value.slice a l c).ownBlock ≠ some O) :
    KS wr ((wr.setCell ⟨O, q, none⟩ h0).setCell ⟨O, q + 1, none⟩ (.slice a 0 c)).drew base O (q + 1) 0 (.slice a l c) (.slice a 0 c) [] := by
  have hrow0 : wr.ownsRow base 5 1 (.slice a 0 c) 0 [] := by
    refine ⟨rfl, ?_⟩
    rcases hr.2 with ⟨h1, h2⟩ | ⟨g, cap, cur, h1, h2, h3, h4, h5, h6, h7⟩
    · injection h1 with e1 e2 e3
      subst e1
      subst e3
      exact .inl ⟨rfl, rfl⟩
    · injection h1 with e1 e2 e3
      subst e1
      subst e3
      exact .inr ⟨g, c, cur, rfl, h2, h3, Nat.zero_le _, h5, h6, by simp⟩
  have hob : (Value.slice a 0 c).ownBlock = (Value.slice a l c).ownBlock := by cases a <;> rfl
  refine ⟨rfl, rfl, rfl, by simp, fun k hk hne _ => ?_, fun o ho => ?_, fun o => ?_, ?_, fun o h3 h4 h5 => ?_, ?_, .inl hob⟩
  · show ((wr.setCell ⟨O, q, none⟩ h0).setCell ⟨O, q + 1, none⟩ (.slice a 0 c)).heap[k]? = _
    rw [Below.heap_setCell _ _ _ k hne, Below.heap_setCell _ _ _ k hne]
  · rw [World.cell?_drew, set_other (.inr (by omega)), set_other (.inr (by omega))]
  · show ((wr.setCell ⟨O, q, none⟩ h0).setCell ⟨O, q + 1, none⟩ (.slice a 0 c)).frozen? _ = _
    rw [World.frozen?_setCell, World.frozen?_setCell]
  · rw [World.cell?_drew]
    refine set_same (u := .slice a l c) ?_
    rw [set_other (.inr (by omega))]
    exact e1
  · rw [World.cell?_drew, set_other (.inr (by omega)), set_other (.inr (by omega))]
  · refine ownsRow_heap hrow0 (fun g e => ?_)
    have hgO : g ≠ O := fun e' => hO (by rw [← hob, e, e'])
    show ((wr.setCell ⟨O, q, none⟩ h0).setCell ⟨O, q + 1, none⟩ (.slice a 0 c)).heap[g]? = _
    rw [Below.heap_setCell _ _ _ g hgO, Below.heap_setCell _ _ _ g hgO]

theorem KS.keep {wz z : World} {p i : Nat} {v0 v : Value} {xs : List Value} {o : Obj} (h : KS wr wz base O p i v0 v xs) (hg : (wz.alloc o).grownBy z v.ownBlock) : ∀ k, k < wr.heap.size → some k ≠ v0.ownBlock → z.heap[k]? = wz.heap[k]? := by
  intro k hk hne
  have hsz := h.size
  rw [hg.block k (by simp; omega) (fun e => ?_), Below.heap_alloc wz o k (by omega)]
  rcases h.since with hs | ⟨g, hs, hs'⟩
  · exact hne (by rw [e, hs])
  · rw [hs] at e
    injection e with e
    omega

theorem KS.push {wz z : World} {p i : Nat} {v0 v : Value} {xs : List Value} {o : Obj} {x : Value} {g cap : Nat} (h : KS wr wz base O p i v0 v xs) (hO : O < wr.heap.size) (hOv : v0.ownBlock ≠ some O) (hp : 3 ≤ p) (hg : (wz.alloc o).grownBy z v.ownBlock) (hat : v.ownBlock = some g ∨ g = wz.heap.size + 1)
    (hown : z.ownsRow base 5 1 (.slice (some ⟨g, 0, none⟩) (i + 1) cap) (i + 1) (xs ++ [x])) :
    KS wr (z.setCell ⟨O, p, none⟩ (.slice (some ⟨g, 0, none⟩) (i + 1) cap)) base O p (i + 1) v0 (.slice (some ⟨g, 0, none⟩) (i + 1) cap) (xs ++ [x]) := by
  have hk := h.keep hg
  have hkO := hk O hO (fun e => hOv e.symm)
  have hsz := h.size
  have hgs : wz.heap.size ≤ z.heap.size := by
    have := hg.size
    simp at this
    omega
  have hsn : (some g : Option Nat) = v0.ownBlock ∨ wr.heap.size ≤ g := by
    rcases hat with e | e
    · rcases h.since with hs | ⟨g', hs, hs'⟩
      · exact .inl (by rw [← e, hs])
      · rw [hs] at e
        injection e with e
        exact .inr (by omega)
    · exact .inr (by omega)
  have hgO : g ≠ O := by
    rcases hsn with e | e
    · intro e'
      exact hOv (by rw [← e, e'])
    · omega
  have kc : ∀ o, z.cell? ⟨O, o, none⟩ = wz.cell? ⟨O, o, none⟩ := fun o => by simp only [World.cell?, hkO]
  have kf : ∀ o, z.frozen? ⟨O, o, none⟩ = wz.frozen? ⟨O, o, none⟩ := fun o => by simp only [World.frozen?, hkO]
  refine ⟨?_, ?_, ?_, by simp; omega, fun k hk' hne hnv => ?_, fun o ho => ?_, fun o => ?_, ?_, fun o h3 h4 h5 => ?_, ?_, ?_⟩
  · show z.os = _
    rw [hg.os]; exact h.os
  · show z.tape = _
    rw [hg.tape]; exact h.tape
  · show z.output = _
    rw [hg.output]; exact h.output
  · rw [Below.heap_setCell _ _ _ k hne, hk k hk' hnv]
    exact h.block k hk' hne hnv
  · rw [set_other (.inr (by omega)), kc]
    exact h.low o ho
  · rw [World.frozen?_setCell, kf]
    exact h.fz o
  · exact set_same ((kc p).trans h.cell)
  · rw [set_other (.inr (by omega)), kc]
    exact h.out o h3 h4 h5
  · exact ownsRow_set hown (by rw [own_some]; simpa using hgO) _
  · rcases hsn with e | e
    · exact .inl (by rw [own_some]; exact e)
    · exact .inr ⟨g, rfl, e⟩

end Go.Proofs.Qxb6616638aGreatFmt.Two
