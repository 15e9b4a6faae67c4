/-
  No cell of these rows narrows 'for every input' (looked for: loops, veiled, ifaces, maps, wideKeys, modest, calm, conditions, laid).
  DERIVED. THE GIVEN ROWS OF THIS SEAT. 3 by the template 'for every input the law returns true; each argument reads behind the call as it read before'; 0 by the template 'total and deterministic' (their statements: Qxb6616198aTotals.lean).
  GIVEN WITH THE SEED: the statements are not yours to turn. If you find one false, say at which input.
  Laid BY PROGRAM, IN A SANDBOX (cutbox-rows.mjs): the forced cells as the released guide's own fill.sh prints them over the translation 0a99b49244f2e23c… (all of the seat's roots in one cut). By AI agents, Wed Nov 11 2026. No macro, syntax, notation, axiom, sorry.
-/
import Derived.Test.Qxb6616198aChecked
import GoSem.Claim
import GoSem.ClaimJoined
import GoSem.ClaimMapViews
import Derived.JoinedTies
import Derived.KernelRfl
namespace Go.Proofs.Qxb6616198a
/- THE CELL 'sum', in the pinned program and in every row, IS THE sha256 OF THE DUMP (.gsa) THAT Qxb6616198aProg.lean LOADS. Nothing in Lean hashes anything: it is a label: what it is worth is what the hold of that sum in a sandbox is worth. -/
noncomputable def Try.pinned : Pinned := { name := "qxb6616198a", sum := "0a99b49244f2e23c2bb72a7cd3118ace7a9ab7864caa8b940445190f5804b00a", checked := Try.checked }
namespace Rows
def none {H : Type} : Left H := { results := [], args := [] }

/-- 'zzlaws_pkg_glob_b1.FnIsSmallIsWhatLowerMakes': WHATEVER THE INPUT: true; the input reads as it did. -/
def fnIsSmallIsWhatLowerMakesSpec : ChangeSpec := { name := "fnIsSmallIsWhatLowerMakes", fn := fun _ => fun
  | [d] => { results := [.lit (.bool true)], args := [d] }
  | _ => none }
def fnIsSmallIsWhatLowerMakesRow : OpenClaim := { program := "qxb6616198a", sum := "0a99b49244f2e23c2bb72a7cd3118ace7a9ab7864caa8b940445190f5804b00a", func := "example.com/sievegrep/sievegrep/zzlaws_pkg_glob_b1.FnIsSmallIsWhatLowerMakes", spec := "fnIsSmallIsWhatLowerMakes", apart := false }
def FnIsSmallIsWhatLowerMakesSaid : Prop := fnIsSmallIsWhatLowerMakesRow.holds Try.pinned (OpenSpec.ofChange fnIsSmallIsWhatLowerMakesSpec)

/-- ITS FALSE NEIGHBOUR: 'it returns false'. Refute it at one input. -/
def fnIsSmallIsWhatLowerMakesWrong : ChangeSpec := { name := "fnIsSmallIsWhatLowerMakes", fn := fun _ => fun
  | [d] => { results := [.lit (.bool false)], args := [d] }
  | _ => none }
def FnIsSmallIsWhatLowerMakesWrongFalsely : Prop := fnIsSmallIsWhatLowerMakesRow.holds Try.pinned (OpenSpec.ofChange fnIsSmallIsWhatLowerMakesWrong)

/-- 'zzlaws_pkg_glob_b1.FnFoldedSplitsAndLowersCapitals': WHATEVER THE INPUT: true; the input reads as it did. -/
def fnFoldedSplitsAndLowersCapitalsSpec : ChangeSpec := { name := "fnFoldedSplitsAndLowersCapitals", fn := fun _ => fun
  | [d1, d2, d3] => { results := [.lit (.bool true)], args := [d1, d2, d3] }
  | _ => none }
def fnFoldedSplitsAndLowersCapitalsRow : OpenClaim := { program := "qxb6616198a", sum := "0a99b49244f2e23c2bb72a7cd3118ace7a9ab7864caa8b940445190f5804b00a", func := "example.com/sievegrep/sievegrep/zzlaws_pkg_glob_b1.FnFoldedSplitsAndLowersCapitals", spec := "fnFoldedSplitsAndLowersCapitals", apart := false }
def FnFoldedSplitsAndLowersCapitalsSaid : Prop := fnFoldedSplitsAndLowersCapitalsRow.holds Try.pinned (OpenSpec.ofChange fnFoldedSplitsAndLowersCapitalsSpec)

/-- ITS FALSE NEIGHBOUR: 'it returns false'. Refute it at one input. -/
def fnFoldedSplitsAndLowersCapitalsWrong : ChangeSpec := { name := "fnFoldedSplitsAndLowersCapitals", fn := fun _ => fun
  | [d1, d2, d3] => { results := [.lit (.bool false)], args := [d1, d2, d3] }
  | _ => none }
def FnFoldedSplitsAndLowersCapitalsWrongFalsely : Prop := fnFoldedSplitsAndLowersCapitalsRow.holds Try.pinned (OpenSpec.ofChange fnFoldedSplitsAndLowersCapitalsWrong)

/-- 'zzlaws_pkg_glob_b1.FnFoldedSettlesAndLeavesLettersSmall': WHATEVER THE INPUT: true; the input reads as it did. -/
def fnFoldedSettlesAndLeavesLettersSmallSpec : ChangeSpec := { name := "fnFoldedSettlesAndLeavesLettersSmall", fn := fun _ => fun
  | [d1, d2] => { results := [.lit (.bool true)], args := [d1, d2] }
  | _ => none }
def fnFoldedSettlesAndLeavesLettersSmallRow : OpenClaim := { program := "qxb6616198a", sum := "0a99b49244f2e23c2bb72a7cd3118ace7a9ab7864caa8b940445190f5804b00a", func := "example.com/sievegrep/sievegrep/zzlaws_pkg_glob_b1.FnFoldedSettlesAndLeavesLettersSmall", spec := "fnFoldedSettlesAndLeavesLettersSmall", apart := false }
def FnFoldedSettlesAndLeavesLettersSmallSaid : Prop := fnFoldedSettlesAndLeavesLettersSmallRow.holds Try.pinned (OpenSpec.ofChange fnFoldedSettlesAndLeavesLettersSmallSpec)

/-- ITS FALSE NEIGHBOUR: 'it returns false'. Refute it at one input. -/
def fnFoldedSettlesAndLeavesLettersSmallWrong : ChangeSpec := { name := "fnFoldedSettlesAndLeavesLettersSmall", fn := fun _ => fun
  | [d1, d2] => { results := [.lit (.bool false)], args := [d1, d2] }
  | _ => none }
def FnFoldedSettlesAndLeavesLettersSmallWrongFalsely : Prop := fnFoldedSettlesAndLeavesLettersSmallRow.holds Try.pinned (OpenSpec.ofChange fnFoldedSettlesAndLeavesLettersSmallWrong)

end Rows
end Go.Proofs.Qxb6616198a
