/-
  Statement 4: the end of add where its order is kept, or was.
-/
import Derived.Test.Qxb6616638aGreatFmtBddK0
namespace Go.Proofs.Qxb6616638aGreatFmt.Two
open Go.Proofs.Qxb6616638aGreatFmt
open Go.RowKit
open Plain
set_option linter.unusedVariables false
set_option maxRecDepth 100000

/-- Over a Names that has kept nothing: what it keeps behind the call. -/
def KeptO (base O : Nat) (kv ov : Value) (w w' : World) : Prop := Fresh w O → Slots w' base O kv ov

variable {w w1 wr : World} {go first N : Nat} {fo : Nat → Nat} {base O B n cap gk ck co b8 b10 : Nat} {bs : Nat → Nat} {es : List Ent} {js : List Nat} {ks os_ : List Value} {kv ov : Value}

theorem keptO_of {w w' : World} (h : KeepO O kv ov w w') : KeptO base O kv ov w w' := fun hf =>
  slots_fresh (fun s hs => ⟨(h _ (by omega)).trans (hf s hs).1, (h _ (by omega)).trans (hf s hs).2⟩)

def bytesOf (fo : Nat → Nat) (i : Nat) : List Value := (List.range i).map (fun t => Value.int .u8 ((fo t : Nat) : Int))
theorem bytesOf_snoc (fo : Nat → Nat) (i : Nat) : bytesOf fo (i + 1) = bytesOf fo i ++ [.int .u8 ((fo i : Nat) : Int)] := by
  unfold bytesOf
  rw [List.range_succ]
  simp

theorem AddGives.mono {us : Nat → List Nat} {K K' : Value → Value → World → World → Prop} {e : Ending} {w' : World} (h : AddGives w base O first us bs es js ks os_ K e w') (hk : ∀ kv ov, K kv ov w w' → K' kv ov w w') : AddGives w base O first us bs es js ks os_ K' e w' := by
  obtain ⟨h1, ⟨h2, od, kv, ov, h3, h4, h5, h6⟩ | h2⟩ := h
  · exact ⟨h1, .inl ⟨h2, od, kv, ov, h3, h4, h5, hk kv ov h6⟩⟩
  · exact ⟨h1, .inr h2⟩

theorem map_getD (xs : List Nat) : (List.range xs.length).map (fun j => xs.getD j 0) = xs := by
  apply List.ext_getElem
  · simp
  · intro i h1 h2
    simp [List.getD_eq_getElem?_getD, h2]

/-- The end where the order has been written to slot s. -/
theorem AM1.okK {us : Nat → List Nat} {w5 wz : World} {s : Nat} {hh hsv : Int} {v0 v : Value} {xs0 : List Nat} (h : AM1 w w1 base O B n cap first gk go ck co b8 b10 bs es js ks os_ kv ov) (hs : OrdSt w1 w5 go first js.length fo) (hos : os_.length = first) (hs2 : s < 256)
    (hst : StrictP us ((List.range js.length).map fo)) (hp : ((List.range js.length).map fo).Perm (List.range js.length)) (hsl : SlotAt w1 base O s (.slice (some ⟨gk, 0, none⟩) (first + js.length) ck) (.slice (some ⟨go, 0, none⟩) (first + js.length) co) hsv v0 xs0)
    (hkey : ∀ g, v0.ownBlock = some g → g < w.heap.size ∧ g ≠ gk ∧ g ≠ go ∧ g ≠ O) (hb8 : w.heap.size ≤ b8) (hk : KS w5 wz base O (3 + s * 2 + 1) js.length v0 v (bytesOf fo js.length)) (hhash : wz.cell? ⟨O, 3 + s * 2, none⟩ = some (.int .u64 hh)) (u0 u1 : Value) :
    AddGives w base O first us bs es js ks os_ (KeptO base O) (.returned (.tuple #[.agg #[.int .i32 (first : Int), .int .i32 0], .nilIface])) ((wz.setCell ⟨b8, 0, none⟩ u0).setCell ⟨b8, 1, none⟩ u1) := by
  obtain ⟨n1, n2, n3, n4, n5, n6, n7, n8, n9, n10⟩ := h.ne
  obtain ⟨l1, l2, l3, l4, l5, l6⟩ := h.lt
  obtain ⟨g1, g2, g3, g4, g5, g6, g7⟩ := h.ge
  have hz5 := hs.but.size
  have hzz := hk.size
  have kc : ∀ b o, b ≠ b8 → ((wz.setCell ⟨b8, 0, none⟩ u0).setCell ⟨b8, 1, none⟩ u1).cell? ⟨b, o, none⟩ = wz.cell? ⟨b, o, none⟩ := fun b o hb => by
    rw [set_other (.inl (by omega)), set_other (.inl (by omega))]
  have kh : ∀ b, b ≠ b8 → ((wz.setCell ⟨b8, 0, none⟩ u0).setCell ⟨b8, 1, none⟩ u1).heap[b]? = wz.heap[b]? := fun b hb => by
    rw [Below.heap_setCell _ _ _ b hb, Below.heap_setCell _ _ _ b hb]
  have hf : EndF w5 ((wz.setCell ⟨b8, 0, none⟩ u0).setCell ⟨b8, 1, none⟩ u1) O b8 v0.ownBlock := by
    refine ⟨hk.os, hk.tape, hk.output, by simpa using hk.size, fun k hk' h1 h2 h3 => ?_, fun o ho => ?_, fun o => ?_⟩
    · rw [kh k h2]; exact hk.block k hk' h1 h3
    · rw [kc O o n8]; exact hk.low o ho
    · rw [World.frozen?_setCell, World.frozen?_setCell]; exact hk.fz o
  refine h.ok hs hos hst hp hf (fun g e => ?_) (fun hfr => ?_)
  · obtain ⟨k1, k2, k3, k4⟩ := hkey g e
    refine ⟨?_, k2, k3⟩
    rcases hsl.row.2 with ⟨h1, _⟩ | ⟨g', _, _, h1, h2, _⟩
    · rw [h1] at e; cases e
    · rw [h1] at e
      injection e with e
      have e' : g' = g := e
      omega
  · intro s' hs'
    by_cases es' : s' = s
    · subst es'
      have hvb : ∀ g, v.ownBlock = some g → g ≠ O ∧ g ≠ gk ∧ g ≠ go ∧ g ≠ b8 := by
        intro g e
        rcases hk.since with hq | ⟨g', hq, hq'⟩
        · obtain ⟨k1, k2, k3, k4⟩ := hkey g (by rw [← hq, e])
          exact ⟨k4, k2, k3, by omega⟩
        · rw [hq] at e
          injection e with e
          exact ⟨by omega, by omega, by omega, by omega⟩
      refine ⟨hh, v, (List.range js.length).map fo, (kc O _ n8).trans hhash, (kc O _ n8).trans hk.cell, ?_, fun x hx => ?_, fun e => (hvb O e).1 rfl, ?_, ?_⟩
      · rw [List.map_map]
        have hr := ownsRow_heap hk.row (w' := (wz.setCell ⟨b8, 0, none⟩ u0).setCell ⟨b8, 1, none⟩ u1) (fun g e => kh g (hvb g e).2.2.2)
        have : ((List.range js.length).map fo).length = js.length := by simp
        rw [this]
        exact hr
      · have := List.mem_range.1 (hp.mem_iff.1 hx)
        simpa using this
      · rcases hv : v.ownBlock with _ | g
        · exact .inl rfl
        · exact .inr (by rw [own_some]; simpa using (hvb g hv).2.1)
      · rcases hv : v.ownBlock with _ | g
        · exact .inl rfl
        · exact .inr (by rw [own_some]; simpa using (hvb g hv).2.2.1)
    · have c0 : ((wz.setCell ⟨b8, 0, none⟩ u0).setCell ⟨b8, 1, none⟩ u1).cell? ⟨O, 3 + s' * 2, none⟩ = some (.int .u64 0) := by
        rw [kc O _ n8, hk.out _ (by omega) (by omega) (by omega), hs.but.cell l5 (by omega), h.keep _ (by omega)]
        exact (hfr s' hs').1
      have c1 : ((wz.setCell ⟨b8, 0, none⟩ u0).setCell ⟨b8, 1, none⟩ u1).cell? ⟨O, 3 + s' * 2 + 1, none⟩ = some (.slice none 0 0) := by
        rw [kc O _ n8, hk.out _ (by omega) (by omega) (by omega), hs.but.cell l5 (by omega), h.keep _ (by omega)]
        exact (hfr s' hs').2
      exact ⟨0, .slice none 0 0, [], c0, c1, ⟨rfl, .inl ⟨rfl, rfl⟩⟩, fun x hx => (by cases hx), by simp [Value.ownBlock], .inl rfl, .inl rfl⟩

end Go.Proofs.Qxb6616638aGreatFmt.Two
