/-
  No cell of these rows narrows 'for every input' (looked for: loops, veiled, ifaces, maps, wideKeys, modest, calm, conditions, laid).
  DERIVED. THE GIVEN ROWS OF THIS SEAT. 1 by the template 'for every input the law returns true; each argument reads behind the call as it read before'; 0 by the template 'total and deterministic' (their statements: Qxb6616637aTotals.lean).
  GIVEN WITH THE SEED: the statements are not yours to turn. If you find one false, say at which input.
  Laid BY PROGRAM, IN A SANDBOX (cutbox-rows.mjs): the forced cells as the released guide's own fill.sh prints them over the translation bccba00b3188ef0c… (all of the seat's roots in one cut). By AI agents, Wed Nov 11 2026. No macro, syntax, notation, axiom, sorry.
-/
import Derived.Test.Qxb6616637aChecked
import GoSem.Claim
import GoSem.ClaimJoined
import GoSem.ClaimMapViews
import Derived.JoinedTies
import Derived.KernelRfl
namespace Go.Proofs.Qxb6616637a
/- THE CELL 'sum', in the pinned program and in every row, IS THE sha256 OF THE DUMP (.gsa) THAT Qxb6616637aProg.lean LOADS. Nothing in Lean hashes anything: it is a label: what it is worth is what the hold of that sum in a sandbox is worth. -/
noncomputable def Try.pinned : Pinned := { name := "qxb6616637a", sum := "bccba00b3188ef0ce1f5d558689107608db151f0d7bd3c65c5ae4bffe72f5972", checked := Try.checked }
namespace Rows
def none {H : Type} : Left H := { results := [], args := [] }

/-- 'zzlaws_rt_b1.FnNamedLeqJoinOfTwo': WHATEVER THE INPUT: true; the input reads as it did. -/
def fnNamedLeqJoinOfTwoSpec : ChangeSpec := { name := "fnNamedLeqJoinOfTwo", fn := fun _ => fun
  | [d1, d2, d3] => { results := [.lit (.bool true)], args := [d1, d2, d3] }
  | _ => none }
def fnNamedLeqJoinOfTwoRow : OpenClaim := { program := "qxb6616637a", sum := "bccba00b3188ef0ce1f5d558689107608db151f0d7bd3c65c5ae4bffe72f5972", func := "example.com/bare-authz/bare-authz/zzlaws_rt_b1.FnNamedLeqJoinOfTwo", spec := "fnNamedLeqJoinOfTwo", apart := false }
def FnNamedLeqJoinOfTwoSaid : Prop := fnNamedLeqJoinOfTwoRow.holds Try.pinned (OpenSpec.ofChange fnNamedLeqJoinOfTwoSpec)

/-- ITS FALSE NEIGHBOUR: 'it returns false'. Refute it at one input. -/
def fnNamedLeqJoinOfTwoWrong : ChangeSpec := { name := "fnNamedLeqJoinOfTwo", fn := fun _ => fun
  | [d1, d2, d3] => { results := [.lit (.bool false)], args := [d1, d2, d3] }
  | _ => none }
def FnNamedLeqJoinOfTwoWrongFalsely : Prop := fnNamedLeqJoinOfTwoRow.holds Try.pinned (OpenSpec.ofChange fnNamedLeqJoinOfTwoWrong)

end Rows
end Go.Proofs.Qxb6616637a
