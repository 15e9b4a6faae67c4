/-
  DERIVED. GIVEN WITH THE SEED: THE CARDS: each row of Qxb6616638aGreatFmtRows.lean that lists a variable, with what it lists TIED to the program's text (the seventh form; the later family's looks); each row that meets fmt, with fmt's text TOLD by the authors' own Lean function (tested against real Go, not proved from fmt's source: count such statements apart). THE CARD IS WHAT COUNTS. Prove the row's statement (the work); the ties are given (Qxb6616638aGreatFmtTie.lean); close each card by the builder's one call (the guide's Derived/Test/ToyasCard.lean, 'card_holds'). Laid BY PROGRAM, IN A SANDBOX (cutbox-door.mjs). By AI agents, Wed Nov 11 2026. No macro, syntax, notation, axiom, sorry.
-/
import Derived.Test.Qxb6616638aGreatFmtRows
import GoSem.ClaimSeven
namespace Go.Proofs.Qxb6616638aGreatFmt
namespace Rows

/-- THE TOLD CARD OF 'zzlaws_internal_jsontext_b1.FnAddOrdersNamesByUTF16'. -/
def fnAddOrdersNamesByUTF16Card : Claim7 := { stood := { row := fnAddOrdersNamesByUTF16Row, standIns := [], harness := (true, "1a759be9c21514b5856bf9778d79a783b0555cc6bb6fb0ace85e80aff369b163"), looks := false }, told := true, goes := false }
def FnAddOrdersNamesByUTF16ToldSaid : Prop := Claim7.holds Tryz.pinned (.plain (OpenSpec.ofChange fnAddOrdersNamesByUTF16Spec)) fnAddOrdersNamesByUTF16Card
/-- ITS FALSE NEIGHBOUR. Refute it at one input. -/
def FnAddOrdersNamesByUTF16ToldWrongFalsely : Prop := Claim7.holds Tryz.pinned (.plain (OpenSpec.ofChange fnAddOrdersNamesByUTF16Wrong)) fnAddOrdersNamesByUTF16Card

/-- THE TOLD CARD OF 'zzlaws_internal_jsontext_b1.FnAddSecondObjectKeepsFirst'. -/
def fnAddSecondObjectKeepsFirstCard : Claim7 := { stood := { row := fnAddSecondObjectKeepsFirstRow, standIns := [], harness := (true, "1a759be9c21514b5856bf9778d79a783b0555cc6bb6fb0ace85e80aff369b163"), looks := false }, told := true, goes := false }
def FnAddSecondObjectKeepsFirstToldSaid : Prop := Claim7.holds Tryz.pinned (.plain (OpenSpec.ofChange fnAddSecondObjectKeepsFirstSpec)) fnAddSecondObjectKeepsFirstCard
/-- ITS FALSE NEIGHBOUR. Refute it at one input. -/
def FnAddSecondObjectKeepsFirstToldWrongFalsely : Prop := Claim7.holds Tryz.pinned (.plain (OpenSpec.ofChange fnAddSecondObjectKeepsFirstWrong)) fnAddSecondObjectKeepsFirstCard
end Rows
end Go.Proofs.Qxb6616638aGreatFmt
