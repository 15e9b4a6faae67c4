/-
  THE WALK of FnNamedLeqJoinOfTwo.
-/
import Derived.Test.Qxb6616637aClosed
import Derived.Laws.IdiomCopy
import Derived.Deep.OwnRows
import Derived.ProofKit
import Derived.Below
import Derived.OpenShut
namespace Go.Proofs.Qxb6616637a
open Go.RowKit
open Plain

/-- WHAT THE WALK IS TOLD OF A SLICE OF INTEGERS THAT CAME IN: it is nil; or it leads to a row of 'cap' cells, the numbers 'zs' (the first 'len' are its elements, the rest its spare room), each fitting its kind. -/
def IsRow (k : IntKind) (w : World) (a : Option Addr) (len cap : Nat) (zs : List Int) : Prop :=
  (a = none ∧ len = 0 ∧ cap = 0 ∧ zs = []) ∨
  ∃ x, a = some x ∧ len ≤ cap ∧ cap ≤ maxLen ∧ zs.length = cap ∧ (∀ i, i < zs.length → w.cell? (x.add i) = some (.int k (zs.getD i 0))) ∧ ∀ n ∈ zs, (Lit.int k n).wf = true


theorem bt {B : Nat} {a b c : World} (h : Below B a b) (hB : B ≤ a.heap.size) (k : Below b.heap.size b c) : Below B a c := h.trans (k.mono (Nat.le_trans hB h.size))

theorem below_setCells {B b : Nat} {a : World} (hb : B ≤ b) : ∀ (vs : List Value) (o : Nat) (w : World), Below B a w → Below B a (w.setCells b o vs)
  | [], _, _, h => h
  | v :: r, o, _, h => below_setCells hb r (o + 1) _ (h.setCell (p := ⟨b, o, none⟩) hb v)

/-- The copy that the law makes of its argument: a new row that holds the same numbers. -/
theorem copied (x : Addr) (len cap : Nat) (zs : List Int) (w : World) (h64 : len ≤ 64) (hlc : len ≤ cap) (hz : zs.length = cap) (hc : ∀ i, i < zs.length → w.cell? (x.add i) = some (.int .u64 (zs.getD i 0))) (hwf : ∀ n ∈ zs, (Lit.int .u64 n).wf = true) :
    ∃ (W1 W2 : World) (A : Nat → Nat), (Instr.makeSlice 22 (.int .i64 (len : Int)) (.int .i64 (len : Int))).run Try.prog w = .ok (.slice (some ⟨w.heap.size, 0, none⟩) len len) W1 ∧
      (∀ ty, (Builtin.copy_ #[22, 22] ty #[.slice (some ⟨w.heap.size, 0, none⟩) len len, .slice (some x) len cap]).run Try.prog W1 = .ok (goInt len) W2) ∧
      (∀ i, i < len → W2.cell? ⟨w.heap.size, i, none⟩ = some (.int .u64 (A i : Int))) ∧ (∀ i, i < len → A i < 18446744073709551616) ∧ w.heap.size < W2.heap.size ∧ Below w.heap.size w W2 := by
  have hmk := run_make_row' (P := Try.prog) 22 23 (.int .u64 0) 8 Try.underlying22 (by kernel_rfl) rfl .i64 .i64 len (by omega) (by omega) w
  have hcl : ((zs.take len).map (Value.int .u64)).length = len := by simp; omega
  have hcell : ∀ j, j < len → ((w.alloc (.cells (madeCells #[.int .u64 0] len) 23)).cell? ⟨w.heap.size, 0 + j, none⟩).isSome = true := by
    intro j hj
    rw [World.cell?_alloc_new]
    simp [madeCells, hj]
  have hbnd : ∀ i, i < len → 0 ≤ zs.getD i 0 ∧ zs.getD i 0 < 18446744073709551616 := by
    intro i hi
    have hm : zs.getD i 0 ∈ zs := by
      rw [List.getD_eq_getElem?_getD, List.getElem?_eq_getElem (by omega)]
      simp
    have := hwf _ hm
    have h2 := bounds_u64 this
    omega
  refine ⟨_, (w.alloc (.cells (madeCells #[.int .u64 0] len) 23)).setCells w.heap.size 0 ((zs.take len).map (Value.int .u64)), fun i => (zs.getD i 0).toNat, hmk, fun ty => ?_, ?_, ?_, ?_, ?_⟩
  · have h := run_copy_cells (P := Try.prog) (w.alloc (.cells (madeCells #[.int .u64 0] len) 23)) 22 22 ty 23 w.heap.size 0 len len x len cap ((zs.take len).map (Value.int .u64)) Try.underlying22 (by kernel_rfl) (by rw [hcl]; simp)
      (fun j v hj => ?_) (fun j hj => hcell j (by omega)) (fun j _ => by rw [World.frozen?_alloc_new]) (fun v hv => by obtain ⟨n, _, rfl⟩ := List.mem_map.1 hv; rfl)
    · rw [hcl] at h
      exact h
    · have hjl : j < len := by
        rcases Nat.lt_or_ge j len with h | h
        · exact h
        · rw [List.getElem?_eq_none (by omega)] at hj
          cases hj
      have hs := hc j (by omega)
      rw [World.cell?_alloc_lt _ _ _ (World.block_lt_of_cell? _ _ hs), hs]
      rw [List.getElem?_map, List.getElem?_take_of_lt hjl, List.getElem?_eq_getElem (by omega)] at hj
      rw [List.getD_eq_getElem?_getD, List.getElem?_eq_getElem (by omega)]
      simpa using hj
  · intro i hi
    have h := World.cell?_setCells_in w.heap.size ((zs.take len).map (Value.int .u64)) 0 (w.alloc (.cells (madeCells #[.int .u64 0] len) 23)) (fun j hj => hcell j (by omega)) i (by omega)
    rw [Nat.zero_add] at h
    rw [h]
    have hb := hbnd i hi
    rw [Int.toNat_of_nonneg hb.1]
    simp [List.getD_eq_getElem?_getD, List.getElem?_eq_getElem (show i < zs.length by omega)]
  · intro i hi
    have hb := hbnd i hi
    show (zs.getD i 0).toNat < _
    omega
  · have hb := below_setCells (Nat.le_refl _) ((zs.take len).map (Value.int .u64)) 0 (w.alloc (.cells (madeCells #[.int .u64 0] len) 23)) (Below.refl w.heap.size _)
    have h := hb.size
    rw [World.size_alloc] at h
    omega
  · exact below_setCells (Nat.le_refl _) ((zs.take len).map (Value.int .u64)) 0 _ ((Below.refl _ _).alloc (Nat.le_refl _) _)

theorem zzBytes_yes (a : Option Addr) (len cap : Nat) (r s : Int) (h : len ≤ 1048576) (w : World) :
    Calls Try.prog 4 #[.slice a len cap, .int .u64 r, .int .u64 s] w fun e w' => e = .returned (.bool true) ∧ w' = w := by
  go_enter Try.func4, Try.ntmps4
  go_wp2
  go_ret
  exact ⟨rfl, rfl⟩

theorem zzBytes_no (a : Option Addr) (len cap : Nat) (r s : Int) (h : 1048576 < len) (w : World) :
    Calls Try.prog 4 #[.slice a len cap, .int .u64 r, .int .u64 s] w fun e w' => e = .returned (.bool false) ∧ w' = w := by
  go_enter Try.func4, Try.ntmps4
  go_wp2
  go_ret
  exact ⟨rfl, rfl⟩

/-- The law at a slice that is too long. -/
theorem walk_long (a : Option Addr) (len cap : Nat) (r s : Int) (h : 64 < len) (w : World) :
    Calls Try.prog 3 #[.slice a len cap, .int .u64 r, .int .u64 s] w fun e w' => e = .returned (.bool true) ∧ Below w.heap.size w w' := by
  by_cases hl : len ≤ 1048576
  · go_enter Try.func3, Try.ntmps3
    go_wp2_with fail
    refine (zzBytes_yes a len cap r s hl _).mono ?_
    rintro e w' ⟨rfl, rfl⟩
    go_wp2
    go_ret
    exact ⟨rfl, Below.refl _ _⟩
  · go_enter Try.func3, Try.ntmps3
    go_wp2_with fail
    refine (zzBytes_no a len cap r s (by omega) _).mono ?_
    rintro e w' ⟨rfl, rfl⟩
    go_wp2
    go_ret
    exact ⟨rfl, Below.refl _ _⟩

/-- The law at the nil slice. -/
theorem walk_nil (r s : Int) (hr : 0 ≤ r) (w : World) :
    Calls Try.prog 3 #[.slice none 0 0, .int .u64 r, .int .u64 s] w fun e w' => e = .returned (.bool true) ∧ Below w.heap.size w w' := by
  have hnil := fun (w : World) => run_neq_slice_nil_any (P := Try.prog) w 22 23 none 0 0 0 0 Try.underlying22
  go_enter Try.func3, Try.ntmps3
  go_wp2_with fail
  refine (zzBytes_yes none 0 0 r s (by omega) _).mono ?_
  rintro e w' ⟨rfl, rfl⟩
  go_wp2
  go_ret
  exact ⟨rfl, Below.refl _ _⟩

/-- The law at ranks that are none of the slice's. -/
theorem walk_ranks (x : Addr) (len cap : Nat) (zs : List Int) (r s : Int) (w : World) (h64 : len ≤ 64) (hlc : len ≤ cap) (hz : zs.length = cap) (hc : ∀ i, i < zs.length → w.cell? (x.add i) = some (.int .u64 (zs.getD i 0))) (hwf : ∀ n ∈ zs, (Lit.int .u64 n).wf = true)
    (hrs : (len : Int) ≤ r ∨ (len : Int) ≤ s) :
    Calls Try.prog 3 #[.slice (some x) len cap, .int .u64 r, .int .u64 s] w fun e w' => e = .returned (.bool true) ∧ Below w.heap.size w w' := by
  obtain ⟨W1, W2, A, hmk, hcp, hA, hA2, hsz, hbel⟩ := copied x len cap zs w h64 hlc hz hc hwf
  have hnil := fun (w : World) => run_neq_slice_nil_any (P := Try.prog) w 22 23 (some x) len cap 0 0 Try.underlying22
  clear hA hA2 hsz hc hwf hz
  by_cases h1 : (len : Int) ≤ r
  · clear hrs
    go_enter Try.func3, Try.ntmps3
    go_wp2_with fail
    refine (zzBytes_yes _ len cap r s (by omega) _).mono ?_
    rintro e w' ⟨rfl, rfl⟩
    go_wp2
    go_ret
    exact ⟨rfl, hbel⟩
  · have h2 : (len : Int) ≤ s := by omega
    clear hrs
    go_enter Try.func3, Try.ntmps3
    go_wp2_with fail
    refine (zzBytes_yes _ len cap r s (by omega) _).mono ?_
    rintro e w' ⟨rfl, rfl⟩
    go_wp2
    go_ret
    exact ⟨rfl, hbel⟩

end Go.Proofs.Qxb6616637a
