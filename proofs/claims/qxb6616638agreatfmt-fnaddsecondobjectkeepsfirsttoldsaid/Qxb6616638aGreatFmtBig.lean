/-
  THE TWO GREAT STRUCTS: laws of the walk for 'build' and 'box' of a Tape, 'alloc' of a Names: their cells stand behind plain words.
-/
import Derived.Test.Qxb6616638aGreatFmtRow
namespace Go.Proofs.Qxb6616638aGreatFmt
open Go.RowKit
set_option linter.unusedVariables false
set_option maxRecDepth 100000

def tz (i : Nat) : Value := if i = 0 then .int .i64 10000 else if i < 4 then .slice none 0 0 else .int .u64 0
def nz (i : Nat) : Value := if i < 3 then .slice none 0 0 else if i % 2 = 1 then .int .u64 0 else .slice none 0 0
def tapeCells : Array Value := Array.ofFn (n := 161) (fun i => tz i.val)
def tape0 : Value := .agg tapeCells
def namesCells : Array Value := Array.ofFn (n := 515) (fun i => nz i.val)

theorem build_run (w : World) : (Instr.build 65 #[(0, .int .i64 10000)]).run Tryz.prog w = .ok tape0 w := by kernel_rfl
theorem box_run (w : World) : (Instr.box 65 tape0).run Tryz.prog w = .ok (.pointer (some ⟨w.heap.size, 0, none⟩)) (w.alloc (.cells tapeCells 65)) := by kernel_rfl
theorem alloc_run (w : World) (old : Value) : (Instr.alloc 41 true old).run Tryz.prog w = .ok (.pointer (some ⟨w.heap.size, 0, none⟩)) (w.alloc (.cells namesCells 41)) := by kernel_rfl

/-- The world with a new block that holds f 0 .. f (m - 1). -/
structure NewBlock (w w' : World) (m : Nat) (f : Nat → Value) : Prop where
  row : Row w' w.heap.size m f
  below : Below w.heap.size w w'
  size : w'.heap.size = w.heap.size + 1

theorem newBlock (w : World) (m : Nat) (f : Nat → Value) (t : TypeId) : NewBlock w (w.alloc (.cells (Array.ofFn (n := m) (fun i => f i.val)) t)) m f := by
  refine ⟨⟨by simp, fun i hi => ?_, fun i hi => by rw [World.frozen?_alloc_new]⟩, (Below.refl _ _).alloc (Nat.le_refl _) _, by simp⟩
  rw [World.cell?_alloc_new]
  simp [hi]

section
variable {w : World} {ops : Array Oper} {rest : List Oper} {o : Oper} {a : Act} {Q : Exit → Act → World → Prop}

theorem wpList_tape_build (hg : o.guard = none) (x : Operand) (hop : o.op = Op.build 65 #[(0, x)]) (hx : a.eval x = .int .i64 10000) (hK : wpList Tryz.prog ops Q rest (a.put o.dst tape0) w) : wpList Tryz.prog ops Q (o :: rest) a w := by
  refine wpList_plain hg fun K hK' => ?_
  have hrun := build_run w
  unfold Oper.wp
  simp [execOp, hop, hx, hrun, Result.andThen]
  exact hK' _ _ hK

theorem wpList_tape_box (hg : o.guard = none) (x : Operand) (hop : o.op = Op.box 65 x) (hx : a.eval x = tape0) (hK : ∀ w', NewBlock w w' 161 tz → wpList Tryz.prog ops Q rest (a.put o.dst (.pointer (some ⟨w.heap.size, 0, none⟩))) w') : wpList Tryz.prog ops Q (o :: rest) a w := by
  refine wpList_plain hg fun K hK' => ?_
  have hrun := box_run w
  unfold Oper.wp
  simp [execOp, hop, hx, hrun, Result.andThen]
  exact hK' _ _ (hK _ (newBlock w 161 tz 65))

theorem wpList_names_alloc (hg : o.guard = none) (hop : o.op = Op.alloc 41) (hK : ∀ w', NewBlock w w' 515 nz → wpList Tryz.prog ops Q rest (a.put o.dst (.pointer (some ⟨w.heap.size, 0, none⟩))) w') : wpList Tryz.prog ops Q (o :: rest) a w := by
  refine wpList_plain hg fun K hK' => ?_
  have hrun := alloc_run w (.tuple #[])
  unfold Oper.wp
  simp [execOp, hop, hrun, Result.andThen]
  exact hK' _ _ (hK _ (newBlock w 515 nz 41))
end

end Go.Proofs.Qxb6616638aGreatFmt
