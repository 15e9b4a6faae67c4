/-
  THE WALK of bytes.Equal at two windows of a text.
-/
import Derived.Test.Qxb6616638aGreatFmtName2
import Derived.Laws.BytesArg
import Derived.Lib.Strings
namespace Go.Proofs.Qxb6616638aGreatFmt
open Go.RowKit
open Plain
set_option linter.unusedVariables false
set_option maxRecDepth 100000

/-- The text of numbers below 256. -/
def txtOf (x : List Nat) : ByteArray := strOfNums (x.map (fun (n : Nat) => (n : Int)))

theorem txtOf_inj {x y : List Nat} (hx : ∀ a ∈ x, a < 256) (hy : ∀ a ∈ y, a < 256) (h : (txtOf x).toList = (txtOf y).toList) : x = y := by
  have h1 : ∀ z : List Nat, (∀ a ∈ z, a < 256) → (txtOf z).data.toList.map (fun b => b.toNat) = z := by
    intro z hz
    unfold txtOf
    rw [strOfNums_data, List.map_map, List.map_map]
    conv => rhs; rw [← List.map_id z]
    refine List.map_congr_left (fun a ha => ?_)
    have := hz a ha
    simp [Nat.mod_eq_of_lt this]
  rw [Lib.toList_data, Lib.toList_data] at h
  rw [← h1 x hx, ← h1 y hy, h]

theorem conv_run (w : World) (B p c : Nat) (x : List Nat) (hx : ∀ i, i < x.length → w.cell? ⟨B, p + i, none⟩ = some (.int .u8 (x.getD i 0 : Nat))) :
    (convert 22 9 (.slice (some ⟨B, p, none⟩) x.length c)).run Tryz.prog w = .ok (.string (txtOf x)) w := by
  refine run_convert_bytes_arg w 22 5 Tryz.underlying22 Tryz.underlying5 B p x.length c _ (by simp) (fun i hi => ?_) 9 Tryz.underlying9
  rw [hx i hi]
  simp [List.getD_eq_getElem?_getD, List.getElem?_eq_getElem hi]

theorem equal_any (w : World) (B p q c c' : Nat) (x y : List Nat) (hx : ∀ i, i < x.length → w.cell? ⟨B, p + i, none⟩ = some (.int .u8 (x.getD i 0 : Nat))) (hy : ∀ i, i < y.length → w.cell? ⟨B, q + i, none⟩ = some (.int .u8 (y.getD i 0 : Nat))) (bx : ∀ a ∈ x, a < 256) (by' : ∀ a ∈ y, a < 256) :
    Calls Tryz.prog 52 #[.slice (some ⟨B, p, none⟩) x.length c, .slice (some ⟨B, q, none⟩) y.length c'] w fun e w' => e = .returned (.bool (decide (x = y))) ∧ w' = w := by
  have h1 := conv_run w B p c x hx
  have h2 := conv_run w B q c' y hy
  have HE : Hid (((txtOf x).toList == (txtOf y).toList) = decide (x = y)) := by
    show _ = _
    by_cases e : x = y
    · subst e; simp
    · have : (txtOf x).toList ≠ (txtOf y).toList := fun h => e (txtOf_inj bx by' h)
      simp [e, this]
  clear hx hy bx by'
  generalize txtOf x = sx at *
  generalize txtOf y = sy at *
  go_enter Tryz.func52, Tryz.ntmps52
  go_wp2
  go_ret
  exact ⟨ret_bool HE.out, rfl⟩

end Go.Proofs.Qxb6616638aGreatFmt
