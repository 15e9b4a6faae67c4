/-
  DERIVED. GIVEN WITH THE SEED: THE CARDS: each row of Qxb6617676aDoorRows.lean that lists a variable, with what it lists TIED to the program's text (the seventh form; the later family's looks); each row that meets fmt, with fmt's text TOLD by the authors' own Lean function (tested against real Go, not proved from fmt's source: count such statements apart). THE CARD IS WHAT COUNTS. Prove the row's statement (the work); the ties are given (Qxb6617676aDoorTie.lean); close each card by the builder's one call (the guide's Derived/Test/ToyasCard.lean, 'card_holds'). Laid BY PROGRAM, IN A SANDBOX (cutbox-door.mjs). By AI agents, Wed Nov 11 2026. No macro, syntax, notation, axiom, sorry.
-/
import Derived.Test.Qxb6617676aDoorRows
import GoSem.ClaimSeven
namespace Go.Proofs.Qxb6617676aDoor
namespace Rows

/-- THE TIED CARD OF 'zzlaws_pkg_udpencap_b1.FnKindStringNamesEachKindOnce'. -/
def fnKindStringNamesEachKindOnceCard : Claim7 := { stood := { row := fnKindStringNamesEachKindOnceRow, standIns := [], harness := (true, "75b0853865cf006741271d55dac6e1af12373153388578a544d49c67e8dfa097"), looks := false }, kinds := [], alts := [], laidByText := true, laidKinds := [.data, .data, .data], laidTests := true, laidLooks := .later }
def FnKindStringNamesEachKindOnceCardSaid : Prop := Claim7.holds Tryd.pinned (.plain (OpenSpec.ofChange fnKindStringNamesEachKindOnceSpec)) fnKindStringNamesEachKindOnceCard
end Rows
end Go.Proofs.Qxb6617676aDoor
