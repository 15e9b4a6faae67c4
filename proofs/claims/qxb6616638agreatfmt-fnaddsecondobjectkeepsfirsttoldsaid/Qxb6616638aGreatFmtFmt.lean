/-
  fmt.Errorf at the one format of this program, and namedTwice over it.
-/
import Derived.Test.Qxb6616638aGreatFmtChecked
import Derived.WalkKit
import Derived.WalkSpells
import Derived.Stop.CallBack
import Derived.Stop.IfaceNil
import GoSem.ClaimData
namespace Go.Proofs
open Go.Extern.Stop Go.Stop Go.Extern

@[go_sem] theorem Tryz.call95 (args : Array Value) (w : World) : (callFunc 95 args).run Tryz.prog w = ((FmtStop.errorf #[9, 147] #[43] args).run Tryz.prog w).andThen fun v w' => .ok (.value v) w' :=
  run_callFunc_extern Tryz.func95 (by kernel_rfl) (by kernel_rfl) (by kernel_rfl) (by kernel_rfl) args w
@[go_sem] theorem Tryz.fguard (name : String) (w : World) : (FmtStop.guard name).run Tryz.prog w = .ok () w := by kernel_rfl
@[go_sem] theorem Tryz.fmt0 : FmtStop.printed? ⟨#[109, 101, 109, 98, 101, 114, 32, 37, 113, 32, 110, 97, 109, 101, 100, 32, 116, 119, 105, 99, 101]⟩ 1 = some [(0, 113, false)] := by kernel_rfl
@[go_sem] theorem Tryz.fmt0r (w : World) : (FmtDoors.printed ⟨#[109, 101, 109, 98, 101, 114, 32, 37, 113, 32, 110, 97, 109, 101, 100, 32, 116, 119, 105, 99, 101]⟩ 1).run Tryz.prog w = .ok [(0, 113, false)] w := by kernel_rfl
def Tryz.shape9 : List UInt8 := [12, 6, 0, 0, 0, 0, 0, 0, 0, 115, 116, 114, 105, 110, 103]
@[go_sem] theorem Tryz.op9_113 (name : String) (x : ByteArray) (w : World) : (FmtStop.operand name false 113 false (.iface 9 (.string x))).run Tryz.prog w = .ok (Tryz.shape9, FmtStop.pack x.data.toList) w := by kernel_rfl
@[go_sem] theorem Tryz.op9_113w (name : String) (x : ByteArray) (w : World) : (FmtStop.operand name true 113 false (.iface 9 (.string x))).run Tryz.prog w = .ok (Tryz.shape9, FmtStop.pack x.data.toList) w := by kernel_rfl
@[go_sem] theorem Tryz.strict9 (name : String) (x : ByteArray) (w : World) : (FmtStop.strict name (.iface 9 (.string x))).run Tryz.prog w = .ok (Tryz.shape9, FmtStop.pack x.data.toList) w := by kernel_rfl
@[go_sem] theorem Tryz.ptr149 (w : World) : (FmtStop.ptrTo "errors.errorString").run Tryz.prog w = .ok 149 w := by kernel_rfl
@[go_sem] theorem Tryz.elem149 (w : World) : (elemOf 149).run Tryz.prog w = .ok 151 w := by kernel_rfl
@[go_sem] theorem Tryz.isError149' (w : World) : (FmtDoors.textMethod 149 "Error").run Tryz.prog w = .ok true w := by kernel_rfl

namespace Qxb6616638aGreatFmt
open Go.RowKit
set_option maxRecDepth 100000

set_option maxHeartbeats 2000000 in
theorem errorf_any (F : Interp) (x : ByteArray) (blk : Nat) (w : World) (hF : F.answers w.tape) (hc0 : w.cell? ⟨blk, 0, none⟩ = some (.iface 9 (.string x))) :
    Calls Tryz.prog 73 #[.string ⟨#[109, 101, 109, 98, 101, 114, 32, 37, 113, 32, 110, 97, 109, 101, 100, 32, 116, 119, 105, 99, 101]⟩, .slice (some ⟨blk, 0, none⟩) 1 1] w fun e w' =>
      ∃ a, e = .returned (.iface 149 (.pointer (some a))) ∧ Below w.heap.size w w' := by
  have hF' := answers_open hF
  go_enter Tryz.func73, Tryz.ntmps73
  go_wp2
  go_ret
  exact ⟨_, rfl, ((Below.refl _ _).alloc (Nat.le_refl _) _).drew⟩

set_option maxHeartbeats 2000000 in
theorem namedTwice_any (F : Interp) (x : ByteArray) (w : World) (hF : F.answers w.tape) :
    Calls Tryz.prog 53 #[.string x] w fun e w' => ∃ a, e = .returned (.iface 149 (.pointer (some a))) ∧ Below w.heap.size w w' := by
  go_enter Tryz.func53, Tryz.ntmps53
  go_wp2_with fail
  refine (errorf_any F x _ _ (by exact hF) (by go_simp)).mono ?_
  rintro e w' ⟨a, rfl, hb⟩
  go_wp2
  go_ret
  exact ⟨_, rfl, (((Below.refl _ _).alloc (Nat.le_refl _) _)).trans (hb.mono (by simp))⟩
end Qxb6616638aGreatFmt
end Go.Proofs
