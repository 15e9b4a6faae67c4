/-
  What addMembers leaves: keys, leads, order.
-/
import Derived.Test.Qxb6616638aGreatFmtPushR
import Derived.Test.Qxb6616638aGreatFmtLead2
import Derived.Test.Qxb6616638aGreatFmtOrdAt
import Derived.Deep.Cut
import Derived.Deep.QuietTactic
import Derived.BigQuiet
namespace Go.Proofs.Qxb6616638aGreatFmt
open Go.RowKit
open Plain
set_option linter.unusedVariables false
set_option maxRecDepth 100000

namespace Plain
def ldE (bs : Nat → Nat) (es : List Ent) (j : Nat) : Nat := ld bs (fr es j) (to es j - fr es j)
def orL (bs : Nat → Nat) (es : List Ent) (js : List Nat) : Nat := js.foldl (fun a j => a ||| ldE bs es j) 0
end Plain

/-- A member's key as four cells. -/
def keyE (bs : Nat → Nat) (es : List Ent) (j : Nat) : List Value := [.int .i32 (j : Int), .int .i32 ((fr es j : Nat) : Int), .int .i32 ((to es j : Nat) : Int), .int .i32 ((mEnd bs es j : Nat) : Int)]
def keysOf (bs : Nat → Nat) (es : List Ent) (js : List Nat) : List Value := js.flatMap (keyE bs es)
def ordOf (bs : Nat → Nat) (es : List Ent) (js : List Nat) : List Value := js.mapIdx (fun i j => Value.int .u64 ((ldE bs es j * 65536 + i : Nat) : Int))

theorem keysOf_snoc (bs : Nat → Nat) (es : List Ent) (js : List Nat) (j : Nat) : keysOf bs es (js ++ [j]) = keysOf bs es js ++ keyE bs es j := by simp [keysOf]
theorem ordOf_snoc (bs : Nat → Nat) (es : List Ent) (js : List Nat) (j : Nat) : ordOf bs es (js ++ [j]) = ordOf bs es js ++ [.int .u64 ((ldE bs es j * 65536 + js.length : Nat) : Int)] := by simp [ordOf, List.mapIdx_append]

/-- Where a row lies that has been grown since w: in its old block or in a new one. -/
def Since (w : World) (v v' : Value) : Prop := v'.ownBlock = v.ownBlock ∨ ∃ g, v'.ownBlock = some g ∧ w.heap.size ≤ g

/-- Only the blocks of v and v2, and new ones, differ. -/
structure But2 (w w' : World) (v v2 : Value) : Prop where
  os : w'.os = w.os
  tape : w'.tape = w.tape
  output : w'.output = w.output
  size : w.heap.size ≤ w'.heap.size
  block : ∀ k, k < w.heap.size → some k ≠ v.ownBlock → some k ≠ v2.ownBlock → w'.heap[k]? = w.heap[k]?

variable {w : World}

def AddMGives (w : World) (base O first : Nat) (kv ov : Value) (ks os_ : List Value) (bs : Nat → Nat) (es : List Ent) (js : List Nat) (e : Ending) (w' : World) : Prop :=
  ∃ (kv' ov' : Value) (W : World) (hh : Int), e = .returned (.tuple #[.int .u64 (orL bs es js : Nat), .int .u64 hh, .nilIface]) ∧ 0 ≤ hh ∧ But2 w W kv ov ∧ w' = (W.setCell ⟨O, 0, none⟩ kv').setCell ⟨O, 1, none⟩ ov' ∧
    W.ownsRow base 78 4 kv' (first + js.length) (ks ++ keysOf bs es js) ∧ W.ownsRow base 36 1 ov' (first + js.length) (os_ ++ ordOf bs es js) ∧ Since w kv kv' ∧ Since w ov ov' ∧ (kv'.ownBlock = none ∨ kv'.ownBlock ≠ ov'.ownBlock)

end Go.Proofs.Qxb6616638aGreatFmt
