/-
  The loops' relation of addMembers, and its step.
-/
import Derived.Test.Qxb6616638aGreatFmtAddM1
namespace Go.Proofs.Qxb6616638aGreatFmt
open Go.RowKit
open Plain
set_option linter.unusedVariables false
set_option maxRecDepth 100000

namespace Plain
theorem chain_len {bs : Nat → Nat} {n : Nat} {es : List Ent} {k q : Nat} : ∀ {p : Nat} {js : List Nat}, Chain bs n es k p js q → p + 2 * js.length ≤ q
  | p, [], h => by simp only [Chain] at h; simp; omega
  | p, j :: js, h => by
    obtain ⟨rfl, _, _, _, _, _, _, _, _, h1, _, h2⟩ := h
    have := chain_len h2
    simp only [List.length_cons]
    omega
end Plain

/-- The loops' relation, but for the room. -/
def AMR (w : World) (base O n lk k q : Nat) (kv ov : Value) (ks os_ : List Value) (bs : Nat → Nat) (es : List Ent) (js : List Nat) (j1 j2 : List Nat) (p : Nat) (v12 v13 : Value) (wr : World) : Prop :=
  js = j1 ++ j2 ∧ Chain bs n es k p j2 q ∧ But2 w wr kv ov ∧ wr.ownsRow base 78 4 v12 (lk + j1.length) (ks ++ keysOf bs es j1) ∧ wr.ownsRow base 36 1 v13 (lk + j1.length) (os_ ++ ordOf bs es j1) ∧ Since w kv v12 ∧ Since w ov v13 ∧
    (v12.ownBlock = none ∨ v12.ownBlock ≠ v13.ownBlock)

theorem ownsRow_set {w : World} {base : Nat} {e : TypeId} {sz : Nat} {v : Value} {n : Nat} {xs : List Value} (h : w.ownsRow base e sz v n xs) {g o : Nat} (hg : v.ownBlock ≠ some g) (x : Value) : (w.setCell ⟨g, o, none⟩ x).ownsRow base e sz v n xs := by
  refine ⟨h.1, ?_⟩
  rcases h.2 with h1 | ⟨g', cap, cur, rfl, h2, h3, h4⟩
  · exact .inl h1
  · refine .inr ⟨g', cap, cur, rfl, h2, ?_, h4⟩
    rw [Below.heap_setCell w _ x g' (fun e' => hg (by show some g' = some g; rw [show g' = g from e']))]
    exact h3

theorem But2.keep {w w' : World} {v v2 : Value} (h : But2 w w' v v2) {O : Nat} (hO : O < w.heap.size) (h1 : v.ownBlock ≠ some O) (h2 : v2.ownBlock ≠ some O) : (∀ o, w'.cell? ⟨O, o, none⟩ = w.cell? ⟨O, o, none⟩) ∧ ∀ o, w'.frozen? ⟨O, o, none⟩ = w.frozen? ⟨O, o, none⟩ := by
  have e := h.block O hO (fun e => h1 e.symm) (fun e => h2 e.symm)
  exact ⟨fun o => by simp only [World.cell?, e], fun o => by simp only [World.frozen?, e]⟩

theorem key_block (w : World) (a b c d : Value) (t : TypeId) : let W := w.alloc (.cells #[a, b, c, d] t)
    W.cell? ⟨w.heap.size, 0, none⟩ = some a ∧ W.cell? ⟨w.heap.size, 1, none⟩ = some b ∧ W.cell? ⟨w.heap.size, 2, none⟩ = some c ∧ W.cell? ⟨w.heap.size, 3, none⟩ = some d ∧ w.heap.size < W.heap.size ∧ Below w.heap.size w W := by
  intro W
  refine ⟨?_, ?_, ?_, ?_, by simp [W], (Below.refl _ _).alloc (Nat.le_refl _) _⟩ <;> (rw [World.cell?_alloc_new]; rfl)

theorem own_some (g n c : Nat) : (Value.slice (some ⟨g, 0, none⟩) n c).ownBlock = some g := rfl

theorem Since.len {w : World} {v : Value} {g n n' c c' : Nat} (h : Since w v (.slice (some ⟨g, 0, none⟩) n c)) : Since w v (.slice (some ⟨g, 0, none⟩) n' c') := h

theorem AMR.step {w : World} {base O n lk k q : Nat} {kv ov : Value} {ks os_ : List Value} {bs : Nat → Nat} {es : List Ent} {js j1 j2 : List Nat} {y p gk go ck co : Nat} {wb W : World} {a b c d x : Value}
    (h : AMR w base O n lk k q kv ov ks os_ bs es js j1 (y :: j2) p (.slice (some ⟨gk, 0, none⟩) (lk + j1.length) ck) (.slice (some ⟨go, 0, none⟩) (lk + j1.length) co) wb)
    (hb : Below wb.heap.size wb W) (hk : lk + j1.length < ck) (ho : lk + j1.length < co)
    (ea : keyE bs es y = [a, b, c, d]) (ex : x = .int .u64 ((ldE bs es y * 65536 + j1.length : Nat) : Int)) :
    AMR w base O n lk k q kv ov ks os_ bs es js (j1 ++ [y]) j2 (nxt bs es (y + 1)) (.slice (some ⟨gk, 0, none⟩) (lk + j1.length + 1) ck) (.slice (some ⟨go, 0, none⟩) (lk + j1.length + 1) co)
      (((((W.setCell ⟨gk, (lk + j1.length) * 4, none⟩ a).setCell ⟨gk, (lk + j1.length) * 4 + 1, none⟩ b).setCell ⟨gk, (lk + j1.length) * 4 + 2, none⟩ c).setCell ⟨gk, (lk + j1.length) * 4 + 3, none⟩ d).setCell ⟨go, lk + j1.length, none⟩ x) := by
  obtain ⟨h1, h2, h3, h4, h5, h6, h7, h8⟩ := h
  obtain ⟨rfl, _, _, _, _, _, _, _, _, _, _, hc⟩ := h2
  have hne : gk ≠ go := by
    rcases h8 with h8 | h8
    · cases h8
    · intro e
      exact h8 (by rw [own_some, own_some, e])
  have r4 := ownsRow_below h4 hb
  have r5 := ownsRow_below h5 hb
  have p4 := push4 r4 hk a b c d
  have k5 := ownsRow_set (ownsRow_set (ownsRow_set (ownsRow_set r5 (g := gk) (o := (lk + j1.length) * 4) (by rw [own_some]; simp; omega) a) (g := gk) (o := (lk + j1.length) * 4 + 1) (by rw [own_some]; simp; omega) b) (g := gk) (o := (lk + j1.length) * 4 + 2) (by rw [own_some]; simp; omega) c) (g := gk) (o := (lk + j1.length) * 4 + 3) (by rw [own_some]; simp; omega) d
  have p5 := push1 k5 ho x
  have q4 := ownsRow_set p4 (g := go) (o := lk + j1.length) (by rw [own_some]; simp; omega) x
  have hlen : lk + (j1 ++ [y]).length = lk + j1.length + 1 := by simp; omega
  refine ⟨by rw [h1]; simp, hc, ?_, ?_, ?_, h6, h7, .inr (by rw [own_some, own_some]; simp; exact hne)⟩
  · exact (((((h3.after hb).set (.inl h6) (own_some _ _ _)).set (.inl h6) (own_some _ _ _)).set (.inl h6) (own_some _ _ _)).set (.inl h6) (own_some _ _ _)).set (.inr h7) (own_some _ _ _)
  · rw [hlen, keysOf_snoc, ea, ← List.append_assoc]
    exact q4
  · rw [hlen, ordOf_snoc, ← ex, ← List.append_assoc]
    exact p5

theorem ldE_lt {bs : Nat → Nat} {es : List Ent} {n y : Nat} (hs : Str bs n (at_ es y).st (at_ es y).en) (h : ∀ i, i < n → bs i < 256) : ldE bs es y < 281474976710656 := by
  obtain ⟨h1, h2, _⟩ := hs
  refine ld_lt (fun i hi => h _ ?_)
  unfold fr to at *
  omega

theorem orL_lt' {bs : Nat → Nat} {n k q : Nat} {es : List Ent} (h : ∀ i, i < n → bs i < 256) : ∀ {p : Nat} {js : List Nat}, Chain bs n es k p js q → ∀ j ∈ js, ldE bs es j < 281474976710656
  | _, [], _, j, hj => by cases hj
  | p, i :: js, hc, j, hj => by
    obtain ⟨rfl, _, _, _, _, hs, _, _, _, _, _, hc'⟩ := hc
    rcases List.mem_cons.1 hj with rfl | hj
    · exact ldE_lt hs h
    · exact orL_lt' h hc' j hj

theorem ownsRow_lt {w : World} {base : Nat} {e : TypeId} {sz : Nat} {v : Value} {n : Nat} {xs : List Value} (h : w.ownsRow base e sz v n xs) {g : Nat} (hg : v.ownBlock = some g) : g < w.heap.size := by
  rcases h.2 with ⟨h1, _⟩ | ⟨g', cap, cur, h1, h2, h3, h4⟩
  · rw [h1] at hg; cases hg
  · rw [h1] at hg
    injection hg with hg
    have hg' : g' = g := hg
    subst hg'
    exact (Array.getElem?_eq_some_iff.1 h3).1

theorem But2.grown {w w' w'' : World} {v v2 : Value} (h : But2 w w' v v2) (hg : w'.grownBy w'' none) : But2 w w'' v v2 :=
  h.after ⟨hg.os, hg.tape, hg.output, hg.size, fun k hk => hg.block k hk (by simp)⟩

theorem Since.grow {w wa : World} {v u : Value} {g n c : Nat} (h : Since w v u) (hs : w.heap.size ≤ wa.heap.size) (hg : u.ownBlock = some g ∨ wa.heap.size ≤ g) : Since w v (.slice (some ⟨g, 0, none⟩) n c) := by
  rcases hg with hg | hg
  · unfold Since at *
    rw [own_some, ← hg]
    exact h
  · exact .inr ⟨g, rfl, by omega⟩

theorem grow_ne {wa w1 : World} {base : Nat} {u12 u13 : Value} {e1 e2 : TypeId} {s1 s2 n gk go cx : Nat} {xs ys : List Value} (h12 : wa.ownsRow base e1 s1 u12 n xs) (h13 : wa.ownsRow base e2 s2 u13 n ys) (hne : u12.ownBlock = none ∨ u12.ownBlock ≠ u13.ownBlock)
    (hs : wa.heap.size ≤ w1.heap.size) (hk1 : w1.ownsRow base e1 s1 (.slice (some ⟨gk, 0, none⟩) n cx) n xs) (hk : u12.ownBlock = some gk ∨ wa.heap.size ≤ gk) (ho : u13.ownBlock = some go ∨ w1.heap.size ≤ go) : gk ≠ go := by
  have l1 := ownsRow_lt hk1 (own_some _ _ _)
  rcases hk with hk | hk <;> rcases ho with ho | ho
  · intro e
    rcases hne with hne | hne
    · rw [hne] at hk; cases hk
    · exact hne (by rw [hk, ho, e])
  · omega
  · have l2 := ownsRow_lt h13 ho
    omega
  · omega

end Go.Proofs.Qxb6616638aGreatFmt
