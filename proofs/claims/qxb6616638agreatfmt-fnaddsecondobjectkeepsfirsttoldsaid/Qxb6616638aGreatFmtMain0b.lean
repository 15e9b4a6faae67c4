/-
  The law's copy of its argument; small steps of its walk (for statement 4: beside Main0, without the texts of a fresh add).
-/
import Derived.Test.Qxb6616638aGreatFmtBig
import Derived.Test.Qxb6616638aGreatFmtZbuild
import Derived.Test.Qxb6616638aGreatFmtNil
import Derived.Test.Qxb6616638aGreatFmtObj
import Derived.Test.Qxb6616638aGreatFmtAgree
import Derived.Test.Qxb6616638aGreatFmtNewT
import Derived.Laws.IdiomCopy
import Derived.Deep.OwnRows
import Derived.ProofKit
import Derived.OpenShut
import Derived.Below
namespace Go.Proofs.Qxb6616638aGreatFmt
open Go.RowKit
open Plain
set_option linter.unusedVariables false
set_option maxRecDepth 100000

def IsRow (k : IntKind) (w : World) (a : Option Addr) (len cap : Nat) (zs : List Int) : Prop :=
  (a = none ∧ len = 0 ∧ cap = 0 ∧ zs = []) ∨
  ∃ x, a = some x ∧ len ≤ cap ∧ cap ≤ maxLen ∧ zs.length = cap ∧ (∀ i, i < zs.length → w.cell? (x.add i) = some (.int k (zs.getD i 0))) ∧ ∀ n ∈ zs, (Lit.int k n).wf = true

theorem bounds_u8 {n : Int} (h : (Lit.int .u8 n).wf = true) : 0 ≤ n ∧ n < 256 := by
  have := h
  simp [Lit.wf, IntKind.min, IntKind.max, IntKind.signed, IntKind.bits] at this
  omega

theorem below_setCs {B b : Nat} {a : World} (hb : B ≤ b) : ∀ (vs : List Value) (o : Nat) (w : World), Below B a w → Below B a (w.setCells b o vs)
  | [], _, _, h => h
  | v :: r, o, _, h => below_setCs hb r (o + 1) _ (h.setCell (p := ⟨b, o, none⟩) hb v)

theorem copied (x : Addr) (len cap : Nat) (zs : List Int) (w : World) (h64 : len ≤ 16383) (hlc : len ≤ cap) (hz : zs.length = cap) (hc : ∀ i, i < zs.length → w.cell? (x.add i) = some (.int .u8 (zs.getD i 0))) (hwf : ∀ n ∈ zs, (Lit.int .u8 n).wf = true) :
    ∃ (W1 W2 : World) (A : Nat → Nat), (Instr.makeSlice 22 (.int .i64 (len : Int)) (.int .i64 (len : Int))).run Tryz.prog w = .ok (.slice (some ⟨w.heap.size, 0, none⟩) len len) W1 ∧
      (∀ ty, (Builtin.copy_ #[22, 22] ty #[.slice (some ⟨w.heap.size, 0, none⟩) len len, .slice (some x) len cap]).run Tryz.prog W1 = .ok (goInt len) W2) ∧
      Txt W2 w.heap.size len A ∧ w.heap.size < W2.heap.size ∧ Below w.heap.size w W2 := by
  have hmk := run_make_row' (P := Tryz.prog) 22 5 (.int .u8 0) 1 Tryz.underlying22 (by kernel_rfl) rfl .i64 .i64 len (by omega) (by omega) w
  have hcl : ((zs.take len).map (Value.int .u8)).length = len := by simp; omega
  have hcell : ∀ j, j < len → ((w.alloc (.cells (madeCells #[.int .u8 0] len) 5)).cell? ⟨w.heap.size, 0 + j, none⟩).isSome = true := by
    intro j hj
    rw [World.cell?_alloc_new]
    simp [madeCells, hj]
  have hbnd : ∀ i, i < len → 0 ≤ zs.getD i 0 ∧ zs.getD i 0 < 256 := by
    intro i hi
    have hm : zs.getD i 0 ∈ zs := by
      rw [List.getD_eq_getElem?_getD, List.getElem?_eq_getElem (by omega)]
      simp
    exact bounds_u8 (hwf _ hm)
  refine ⟨_, (w.alloc (.cells (madeCells #[.int .u8 0] len) 5)).setCells w.heap.size 0 ((zs.take len).map (Value.int .u8)), fun i => (zs.getD i 0).toNat, hmk, fun ty => ?_, fun i hi => ⟨?_, ?_⟩, ?_, ?_⟩
  · have h := run_copy_cells (P := Tryz.prog) (w.alloc (.cells (madeCells #[.int .u8 0] len) 5)) 22 22 ty 5 w.heap.size 0 len len x len cap ((zs.take len).map (Value.int .u8)) Tryz.underlying22 (by kernel_rfl) (by rw [hcl]; simp)
      (fun j v hj => ?_) (fun j hj => hcell j (by omega)) (fun j _ => by rw [World.frozen?_alloc_new]) (fun v hv => by obtain ⟨n, _, rfl⟩ := List.mem_map.1 hv; rfl)
    · rw [hcl] at h
      exact h
    · have hjl : j < len := by
        rcases Nat.lt_or_ge j len with h | h
        · exact h
        · rw [List.getElem?_eq_none (by omega)] at hj
          cases hj
      have hs := hc j (by omega)
      rw [World.cell?_alloc_lt _ _ _ (World.block_lt_of_cell? _ _ hs), hs]
      rw [List.getElem?_map, List.getElem?_take_of_lt hjl, List.getElem?_eq_getElem (by omega)] at hj
      rw [List.getD_eq_getElem?_getD, List.getElem?_eq_getElem (by omega)]
      simpa using hj
  · have h := World.cell?_setCells_in w.heap.size ((zs.take len).map (Value.int .u8)) 0 (w.alloc (.cells (madeCells #[.int .u8 0] len) 5)) (fun j hj => hcell j (by omega)) i (by omega)
    rw [Nat.zero_add] at h
    rw [h]
    have hb := hbnd i hi
    rw [Int.toNat_of_nonneg hb.1]
    simp [List.getD_eq_getElem?_getD, List.getElem?_eq_getElem (show i < zs.length by omega)]
  · have hb := hbnd i hi
    show (zs.getD i 0).toNat < _
    omega
  · have hb := below_setCs (Nat.le_refl _) ((zs.take len).map (Value.int .u8)) 0 (w.alloc (.cells (madeCells #[.int .u8 0] len) 5)) (Below.refl w.heap.size _)
    have h := hb.size
    rw [World.size_alloc] at h
    omega
  · exact below_setCs (Nat.le_refl _) ((zs.take len).map (Value.int .u8)) 0 _ ((Below.refl _ _).alloc (Nat.le_refl _) _)

theorem isValue_none {w : World} (T : Nat) (a : Option Addr) (c : Nat) (k : Int) (h : w.cell? ⟨T, 0, none⟩ = some (.slice a 0 c)) : Calls Tryz.prog 20 #[.pointer (some ⟨T, 0, none⟩), .int .i64 k] w fun e w' => e = .returned (.bool false) ∧ w' = w := by
  by_cases hk : 0 ≤ k
  · have h1 : decide (k < 0) = false := by simp; omega
    have h2 : ¬ k < 0 := by omega
    go_enter Tryz.func20, Tryz.ntmps20
    go_wp2
    go_ret
    exact ⟨rfl, rfl⟩
  · have h1 : decide (0 ≤ k) = false := by simp; omega
    go_enter Tryz.func20, Tryz.ntmps20
    go_wp2
    go_ret
    exact ⟨rfl, rfl⟩

theorem isObject_none {w : World} (v : Value) (T : Nat) (a : Option Addr) (c : Nat) (k : Int) (h : w.cell? ⟨T, 0, none⟩ = some (.slice a 0 c)) : Calls Tryz.prog 7 #[v, .pointer (some ⟨T, 0, none⟩), .int .i64 k] w fun e w' => e = .returned (.bool false) ∧ w' = w := by
  go_enter Tryz.func7, Tryz.ntmps7
  go_wp2_with fail
  refine (isValue_none T a c k h).mono ?_
  rintro e w' ⟨rfl, rfl⟩
  go_wp2
  go_ret
  exact ⟨rfl, rfl⟩

section
variable {w : World} {ops : Array Oper} {rest : List Oper} {o : Oper} {a : Act} {Q : Exit → Act → World → Prop}
theorem wpList_names_alloc2 (hg : o.guard = none) (hop : o.op = Op.alloc 41) (hK : ∀ w', NewBlock w w' 515 nz → (∀ p, w'.frozen? ⟨w.heap.size, p, none⟩ = false) → wpList Tryz.prog ops Q rest (a.put o.dst (.pointer (some ⟨w.heap.size, 0, none⟩))) w') : wpList Tryz.prog ops Q (o :: rest) a w := by
  refine wpList_plain hg fun K hK' => ?_
  have hrun := alloc_run w (.tuple #[])
  unfold Oper.wp
  simp [execOp, hop, hrun, Result.andThen]
  exact hK' _ _ (hK _ (newBlock w 515 nz 41) (fun p => by rw [World.frozen?_alloc_new]))
end

end Go.Proofs.Qxb6616638aGreatFmt
