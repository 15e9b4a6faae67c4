/-
  No cell of these rows narrows 'for every input' (looked for: loops, veiled, ifaces, maps, wideKeys, modest, calm, conditions, laid).
  DERIVED. THE GIVEN ROWS OF THIS SEAT. 2 by the template 'for every input the law returns true; each argument reads behind the call as it read before'; 0 by the template 'total and deterministic' (their statements: Qxb6616638aGreatFmtTotals.lean).
  GIVEN WITH THE SEED: the statements are not yours to turn. If you find one false, say at which input.
  Laid BY PROGRAM, IN A SANDBOX (cutbox-rows.mjs): the forced cells as the released guide's own fill.sh prints them over the translation de98e11329d826ec… (all of the seat's roots in one cut). By AI agents, Wed Nov 11 2026. No macro, syntax, notation, axiom, sorry.
-/
import Derived.Test.Qxb6616638aGreatFmtChecked
import GoSem.Claim
import GoSem.ClaimJoined
import GoSem.ClaimMapViews
import Derived.JoinedTies
import Derived.KernelRfl
namespace Go.Proofs.Qxb6616638aGreatFmt
/- THE CELL 'sum', in the pinned program and in every row, IS THE sha256 OF THE DUMP (.gsa) THAT Qxb6616638aGreatFmtProg.lean LOADS. Nothing in Lean hashes anything: it is a label: what it is worth is what the hold of that sum in a sandbox is worth. -/
noncomputable def Tryz.pinned : Pinned := { name := "qxb6616638agreatfmt", sum := "de98e11329d826eccb98088eaa4fa37020b630b443608bb7e9495517f45aeb65", checked := Tryz.checked }
namespace Rows
def none {H : Type} : Left H := { results := [], args := [] }

/-- 'zzlaws_internal_jsontext_b1.FnAddOrdersNamesByUTF16': WHATEVER THE INPUT: true; the input reads as it did. -/
def fnAddOrdersNamesByUTF16Spec : ChangeSpec := { name := "fnAddOrdersNamesByUTF16", fn := fun _ => fun
  | [d1, d2] => { results := [.lit (.bool true)], args := [d1, d2] }
  | _ => none }
def fnAddOrdersNamesByUTF16Row : OpenClaim := { program := "qxb6616638agreatfmt", sum := "de98e11329d826eccb98088eaa4fa37020b630b443608bb7e9495517f45aeb65", func := "example.com/inlet/inlet/zzlaws_internal_jsontext_b1.FnAddOrdersNamesByUTF16", spec := "fnAddOrdersNamesByUTF16", stops := ["fmt.errorf"], inPlace := ["fmt.errorf"], unfollowed := true, recurses := true, named := ["encoding/binary.BigEndian"], apart := false }
/-- NO THEOREM (fmt's text is open here; it may be false): for the released tool's asking of the row's closed facts alone. THE STATEMENT IS 'FnAddOrdersNamesByUTF16ToldSaid' (Qxb6616638aGreatFmtCards.lean). -/
def FnAddOrdersNamesByUTF16FormAsk : Prop := fnAddOrdersNamesByUTF16Row.holds Tryz.pinned (OpenSpec.ofChange fnAddOrdersNamesByUTF16Spec)

/-- ITS FALSE NEIGHBOUR: 'it returns false'. Refute it at one input. -/
def fnAddOrdersNamesByUTF16Wrong : ChangeSpec := { name := "fnAddOrdersNamesByUTF16", fn := fun _ => fun
  | [d1, d2] => { results := [.lit (.bool false)], args := [d1, d2] }
  | _ => none }
def FnAddOrdersNamesByUTF16WrongFormAsk : Prop := fnAddOrdersNamesByUTF16Row.holds Tryz.pinned (OpenSpec.ofChange fnAddOrdersNamesByUTF16Wrong)

/-- 'zzlaws_internal_jsontext_b1.FnAddSecondObjectKeepsFirst': WHATEVER THE INPUT: true; the input reads as it did. -/
def fnAddSecondObjectKeepsFirstSpec : ChangeSpec := { name := "fnAddSecondObjectKeepsFirst", fn := fun _ => fun
  | [d1, d2, d3] => { results := [.lit (.bool true)], args := [d1, d2, d3] }
  | _ => none }
def fnAddSecondObjectKeepsFirstRow : OpenClaim := { program := "qxb6616638agreatfmt", sum := "de98e11329d826eccb98088eaa4fa37020b630b443608bb7e9495517f45aeb65", func := "example.com/inlet/inlet/zzlaws_internal_jsontext_b1.FnAddSecondObjectKeepsFirst", spec := "fnAddSecondObjectKeepsFirst", stops := ["fmt.errorf"], inPlace := ["fmt.errorf"], unfollowed := true, recurses := true, named := ["encoding/binary.BigEndian"], apart := false }
/-- NO THEOREM (fmt's text is open here; it may be false): for the released tool's asking of the row's closed facts alone. THE STATEMENT IS 'FnAddSecondObjectKeepsFirstToldSaid' (Qxb6616638aGreatFmtCards.lean). -/
def FnAddSecondObjectKeepsFirstFormAsk : Prop := fnAddSecondObjectKeepsFirstRow.holds Tryz.pinned (OpenSpec.ofChange fnAddSecondObjectKeepsFirstSpec)

/-- ITS FALSE NEIGHBOUR: 'it returns false'. Refute it at one input. -/
def fnAddSecondObjectKeepsFirstWrong : ChangeSpec := { name := "fnAddSecondObjectKeepsFirst", fn := fun _ => fun
  | [d1, d2, d3] => { results := [.lit (.bool false)], args := [d1, d2, d3] }
  | _ => none }
def FnAddSecondObjectKeepsFirstWrongFormAsk : Prop := fnAddSecondObjectKeepsFirstRow.holds Tryz.pinned (OpenSpec.ofChange fnAddSecondObjectKeepsFirstWrong)

end Rows
end Go.Proofs.Qxb6616638aGreatFmt
