/-
  Statement 4: the end of add where nothing is kept.
-/
import Derived.Test.Qxb6616638aGreatFmtBdd3
namespace Go.Proofs.Qxb6616638aGreatFmt.Two
open Go.Proofs.Qxb6616638aGreatFmt
open Go.RowKit
open Plain
set_option linter.unusedVariables false
set_option maxRecDepth 100000

/-- The kept orders are as they were. -/
def KeepO (O : Nat) (_ _ : Value) (w w' : World) : Prop := ∀ o, 3 ≤ o → w'.cell? ⟨O, o, none⟩ = w.cell? ⟨O, o, none⟩

variable {w w1 wr : World} {go first N : Nat} {fo : Nat → Nat} {base O B n cap gk ck co b8 b10 : Nat} {bs : Nat → Nat} {es : List Ent} {js : List Nat} {ks os_ : List Value} {kv ov : Value}

theorem endF8 (w5 : World) {O b8 : Nat} (h : O ≠ b8) (v0 v1 : Value) : EndF w5 ((w5.setCell ⟨b8, 0, none⟩ v0).setCell ⟨b8, 1, none⟩ v1) O b8 none := by
  refine ⟨rfl, rfl, rfl, by simp, fun k hk h1 h2 _ => ?_, fun o ho => ?_, fun o => ?_⟩
  · rw [Below.heap_setCell _ _ _ k h2, Below.heap_setCell _ _ _ k h2]
  · rw [set_other (.inl (by omega)), set_other (.inl (by omega))]
  · rw [World.frozen?_setCell, World.frozen?_setCell]

theorem AM1.ok8 {us : Nat → List Nat} {w5 : World} (h : AM1 w w1 base O B n cap first gk go ck co b8 b10 bs es js ks os_ kv ov) (hs : OrdSt w1 w5 go first js.length fo) (hos : os_.length = first)
    (hst : StrictP us ((List.range js.length).map fo)) (hp : ((List.range js.length).map fo).Perm (List.range js.length)) (v0 v1 : Value) :
    AddGives w base O first us bs es js ks os_ (KeepO O) (.returned (.tuple #[.agg #[.int .i32 (first : Int), .int .i32 0], .nilIface])) ((w5.setCell ⟨b8, 0, none⟩ v0).setCell ⟨b8, 1, none⟩ v1) := by
  obtain ⟨n1, n2, n3, n4, n5, n6, n7, n8, n9, n10⟩ := h.ne
  obtain ⟨l1, l2, l3, l4, l5, l6⟩ := h.lt
  refine h.ok hs hos hst hp (endF8 w5 n8 v0 v1) (fun g e => by cases e) (fun o ho => ?_)
  rw [set_other (.inl (by omega)), set_other (.inl (by omega)), hs.but.cell l5 (by omega)]
  exact h.keep o (by omega)

end Go.Proofs.Qxb6616638aGreatFmt.Two
