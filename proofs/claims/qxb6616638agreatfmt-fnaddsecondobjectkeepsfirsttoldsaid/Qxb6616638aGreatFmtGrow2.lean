/-
  slices.Grow at the keys and at the order.
-/
import Derived.Test.Qxb6616638aGreatFmtGrow
import Derived.Test.Qxb6616638aGreatFmtNewT
namespace Go.Proofs.Qxb6616638aGreatFmt
open Go.RowKit Go.Shelf
set_option linter.unusedVariables false
set_option maxRecDepth 100000

variable {w : World}

theorem info78 : ∃ i, Tryz.prog.info? 78 = some i ∧ i.zero = some (.agg #[.int .i32 0, .int .i32 0, .int .i32 0, .int .i32 0]) ∧ i.size = 4 ∧ i.bytes = 16 := by
  have h : (Tryz.prog.info? 78).map (fun i => (i.zero, i.size, i.bytes)) = some (some (.agg #[.int .i32 0, .int .i32 0, .int .i32 0, .int .i32 0]), 4, 16) := by kernel_rfl
  obtain ⟨i, hi, hz⟩ := Option.map_eq_some_iff.1 h
  simp only [Prod.mk.injEq] at hz
  exact ⟨i, hi, hz.1, hz.2.1, hz.2.2⟩

theorem grow40 (base : Nat) (v : Value) (n : Nat) (xs : List Value) (hn : n ≤ 20000) (hown : w.ownsRow base 78 4 v n xs) (hb : base ≤ w.heap.size) :
    Calls Tryz.prog 40 #[v, .int .i64 32] w (GrowGives w base 78 4 v n xs) := by
  obtain ⟨i, hi, hz, hs, hby⟩ := info78
  exact grow_own Tryz.lays84_f40 i _ 4 hi hz hs (by omega) (by omega) rfl base v n xs hn hown hb

theorem grow41 (base : Nat) (v : Value) (n : Nat) (xs : List Value) (hn : n ≤ 20000) (hown : w.ownsRow base 36 1 v n xs) (hb : base ≤ w.heap.size) :
    Calls Tryz.prog 41 #[v, .int .i64 32] w (GrowGives w base 36 1 v n xs) := by
  obtain ⟨i, hi, hz, hs, hby⟩ := info36
  exact grow_own Tryz.lays84_f41 i _ 1 hi hz hs (by omega) (by omega) rfl base v n xs hn hown hb

end Go.Proofs.Qxb6616638aGreatFmt
