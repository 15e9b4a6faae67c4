/-
  sortNames' comparison: the walks of name and of the closure, with the world as it ends.
-/
import Derived.Test.Qxb6616638aGreatFmtName
import Derived.Test.Qxb6616638aGreatFmtOrdAt
import Derived.Shelf.SlSortCmp.QuietGrown
import Derived.Deep.MidRow
import Derived.BigQuiet
namespace Go.Proofs.Qxb6616638aGreatFmt
open Go.RowKit
open Plain
open Go.Sort (grow)
set_option linter.unusedVariables false
set_option maxRecDepth 100000

variable {w : World}

theorem decoded_gr (a b c d : Int) (hd : 0 ≤ d) :
    Calls Tryz.prog 60 #[.agg #[.int .i32 a, .int .i32 b, .int .i32 c, .int .i32 d]] w fun e w' => e = .returned (.bool false) ∧ w' = w.alloc (.cells #[.int .i32 a, .int .i32 b, .int .i32 c, .int .i32 d] 78) := by
  have hd' : ¬ d < 0 := by omega
  go_enter Tryz.func60, Tryz.ntmps60
  go_wp2
  go_ret
  exact ⟨rfl, rfl⟩

theorem name_gr (O B n cap f t : Nat) (a d : Int) (hd : 0 ≤ d) (hft : f ≤ t) (htn : t ≤ n) (hfc : f < cap) (hcap : n ≤ cap) (hn : n ≤ 16383) :
    Calls Tryz.prog 47 #[.pointer (some ⟨O, 0, none⟩), .slice (some ⟨B, 0, none⟩) n cap, .agg #[.int .i32 a, .int .i32 (f : Int), .int .i32 (t : Int), .int .i32 d]] w fun e w' => e = .returned (.slice (some ⟨B, f, none⟩) (t - f) (cap - f)) ∧ ∃ q os, w' = grow (w.drewN q) os := by
  go_enter Tryz.func47, Tryz.ntmps47
  go_wp2_with fail
  refine (decoded_gr _ _ _ _ hd).mono ?_
  rintro e w1 ⟨rfl, rfl⟩
  obtain ⟨W, hW⟩ : ∃ W, W = (w.alloc (.cells #[.int .i32 a, .int .i32 (f : Int), .int .i32 (t : Int), .int .i32 d] 78)).alloc (.cells #[.int .i32 a, .int .i32 (f : Int), .int .i32 (t : Int), .int .i32 d] 78) := ⟨_, rfl⟩
  have c1 : W.cell? ⟨w.heap.size, 1, none⟩ = some (.int .i32 (f : Int)) := by
    rw [hW, World.cell?_alloc_lt _ _ _ (by simp), World.cell?_alloc_new]
    rfl
  have c2 : W.cell? ⟨w.heap.size, 2, none⟩ = some (.int .i32 (t : Int)) := by
    rw [hW, World.cell?_alloc_lt _ _ _ (by simp), World.cell?_alloc_new]
    rfl
  have HG : Hid (∃ q os, W = grow (w.drewN q) os) := by
    refine ⟨0, #[.cells #[.int .i32 a, .int .i32 (f : Int), .int .i32 (t : Int), .int .i32 d] 78] ++ #[.cells #[.int .i32 a, .int .i32 (f : Int), .int .i32 (t : Int), .int .i32 d] 78], ?_⟩
    rw [hW, Go.Sort.alloc_eq_grow, Go.Sort.alloc_eq_grow, Go.Sort.grow_grow]
    rfl
  rw [← hW]
  clear hW
  go_wp2
  go_ret
  exact ⟨rfl, HG.out⟩

namespace Plain
/-- The bytes of the name of entry j. -/
def nmB (bs : Nat → Nat) (es : List Ent) (j : Nat) : List Nat := bl bs (fr es j) (to es j - fr es j)
end Plain

/-- WHAT THE COMPARISON READS: the three boxes, the keys of the object (from place at' on), the text; all below bd. -/
structure CmpEnv (w : World) (bd bo bb bk O B n cap gk at' : Nat) (bs : Nat → Nat) (es : List Ent) (js : List Nat) : Prop where
  lts : bo < bd ∧ bb < bd ∧ bk < bd ∧ gk < bd ∧ B < bd
  hbd : bd ≤ w.heap.size
  co : w.cell? ⟨bo, 0, none⟩ = some (.pointer (some ⟨O, 0, none⟩))
  cb : w.cell? ⟨bb, 0, none⟩ = some (.slice (some ⟨B, 0, none⟩) n cap)
  ck : ∃ c, w.cell? ⟨bk, 0, none⟩ = some (.slice (some ⟨gk, at' * 4, none⟩) js.length c)
  txt : Txt w B n bs
  key : ∀ i, i < js.length → w.cell? ⟨gk, at' * 4 + i * 4, none⟩ = some (.int .i32 (js.getD i 0 : Nat)) ∧ w.cell? ⟨gk, at' * 4 + i * 4 + 1, none⟩ = some (.int .i32 (fr es (js.getD i 0) : Nat)) ∧
    w.cell? ⟨gk, at' * 4 + i * 4 + 2, none⟩ = some (.int .i32 (to es (js.getD i 0) : Nat)) ∧ w.cell? ⟨gk, at' * 4 + i * 4 + 3, none⟩ = some (.int .i32 (mEnd bs es (js.getD i 0) : Nat))
  nm : ∀ i, i < js.length → fr es (js.getD i 0) ≤ to es (js.getD i 0) ∧ to es (js.getD i 0) < n
  hn : n ≤ 16383
  hcap : n ≤ cap
  hjs : js.length ≤ 16383

theorem CmpEnv.below {w w' : World} {bd bo bb bk O B n cap gk at' : Nat} {bs : Nat → Nat} {es : List Ent} {js : List Nat} (h : CmpEnv w bd bo bb bk O B n cap gk at' bs es js) (hb : Below bd w w') : CmpEnv w' bd bo bb bk O B n cap gk at' bs es js := by
  obtain ⟨l1, l2, l3, l4, l5⟩ := h.lts
  obtain ⟨c, hc⟩ := h.ck
  exact ⟨h.lts, Nat.le_trans h.hbd hb.size, (hb.cell (p := ⟨bo, 0, none⟩) l1).trans h.co, (hb.cell (p := ⟨bb, 0, none⟩) l2).trans h.cb, ⟨c, (hb.cell (p := ⟨bk, 0, none⟩) l3).trans hc⟩, fun i hi => ⟨(hb.cell (p := ⟨B, i, none⟩) l5).trans (h.txt i hi).1, (h.txt i hi).2⟩,
    fun i hi => ⟨(hb.cell (p := ⟨gk, at' * 4 + i * 4, none⟩) l4).trans (h.key i hi).1, (hb.cell (p := ⟨gk, at' * 4 + i * 4 + 1, none⟩) l4).trans (h.key i hi).2.1, (hb.cell (p := ⟨gk, at' * 4 + i * 4 + 2, none⟩) l4).trans (h.key i hi).2.2.1, (hb.cell (p := ⟨gk, at' * 4 + i * 4 + 3, none⟩) l4).trans (h.key i hi).2.2.2⟩, h.nm, h.hn, h.hcap, h.hjs⟩

theorem grow_below (w : World) (q : Nat) (os : Array Go.Obj) : Below w.heap.size w (grow (w.drewN q) os) :=
  ⟨rfl, rfl, rfl, by rw [Go.Sort.size_grow]; exact Nat.le_add_right _ _, fun k hk => by
    show (grow (w.drewN q) os).heap[k]? = _
    unfold grow
    exact Array.getElem?_append_left hk⟩

set_option maxHeartbeats 8000000 in
theorem cmp_any (bd bo bb bk O B n cap gk at' : Nat) (bs : Nat → Nat) (es : List Ent) (js : List Nat) (x y : Nat) (h : CmpEnv w bd bo bb bk O B n cap gk at' bs es js) (hx : x < js.length) (hy : y < js.length) :
    Calls Tryz.prog 51 #[.int .u64 x, .int .u64 y, .pointer (some ⟨bo, 0, none⟩), .pointer (some ⟨bb, 0, none⟩), .pointer (some ⟨bk, 0, none⟩)] w fun e w' => e = .returned (.int .i64 (cmpB (nmB bs es (js.getD x 0)) (nmB bs es (js.getD y 0)))) ∧ ∃ q os, w' = grow (w.drewN q) os := by
  have mixed : Tryz.prog.follows .mixedOrders = true := by kernel_rfl
  have hS : ∀ q os, CmpEnv (grow (w.drewN q) os) bd bo bb bk O B n cap gk at' bs es js := fun q os => h.below ((grow_below w q os).mono h.hbd)
  obtain ⟨ck, hck⟩ := h.ck
  have hE := h
  have f1 : ∀ q os, (grow (w.drewN q) os).cell? ⟨bo, 0, none⟩ = some (.pointer (some ⟨O, 0, none⟩)) := fun q os => (hS q os).co
  have f2 : ∀ q os, (grow (w.drewN q) os).cell? ⟨bb, 0, none⟩ = some (.slice (some ⟨B, 0, none⟩) n cap) := fun q os => (hS q os).cb
  have f3 : ∀ q os, (grow (w.drewN q) os).cell? ⟨bk, 0, none⟩ = some (.slice (some ⟨gk, at' * 4, none⟩) js.length ck) := fun q os => ((grow_below w q os).cell (p := ⟨bk, 0, none⟩) (Nat.lt_of_lt_of_le h.lts.2.2.1 h.hbd)).trans hck
  have x0 : ∀ q os, (grow (w.drewN q) os).cell? ⟨gk, at' * 4 + x * 4, none⟩ = some (.int .i32 (js.getD x 0 : Nat)) := fun q os => ((hS q os).key x hx).1
  have x1 : ∀ q os, (grow (w.drewN q) os).cell? ⟨gk, at' * 4 + x * 4 + 1, none⟩ = some (.int .i32 (fr es (js.getD x 0) : Nat)) := fun q os => ((hS q os).key x hx).2.1
  have x2 : ∀ q os, (grow (w.drewN q) os).cell? ⟨gk, at' * 4 + x * 4 + 2, none⟩ = some (.int .i32 (to es (js.getD x 0) : Nat)) := fun q os => ((hS q os).key x hx).2.2.1
  have x3 : ∀ q os, (grow (w.drewN q) os).cell? ⟨gk, at' * 4 + x * 4 + 3, none⟩ = some (.int .i32 (mEnd bs es (js.getD x 0) : Nat)) := fun q os => ((hS q os).key x hx).2.2.2
  have y0 : ∀ q os, (grow (w.drewN q) os).cell? ⟨gk, at' * 4 + y * 4, none⟩ = some (.int .i32 (js.getD y 0 : Nat)) := fun q os => ((hS q os).key y hy).1
  have y1 : ∀ q os, (grow (w.drewN q) os).cell? ⟨gk, at' * 4 + y * 4 + 1, none⟩ = some (.int .i32 (fr es (js.getD y 0) : Nat)) := fun q os => ((hS q os).key y hy).2.1
  have y2 : ∀ q os, (grow (w.drewN q) os).cell? ⟨gk, at' * 4 + y * 4 + 2, none⟩ = some (.int .i32 (to es (js.getD y 0) : Nat)) := fun q os => ((hS q os).key y hy).2.2.1
  have y3 : ∀ q os, (grow (w.drewN q) os).cell? ⟨gk, at' * 4 + y * 4 + 3, none⟩ = some (.int .i32 (mEnd bs es (js.getD y 0) : Nat)) := fun q os => ((hS q os).key y hy).2.2.2
  have hnx := h.nm x hx
  have hny := h.nm y hy
  have hcap := h.hcap
  have hjs := h.hjs
  have C1 : Hid (∀ q os, Calls Tryz.prog 47 #[.pointer (some ⟨O, 0, none⟩), .slice (some ⟨B, 0, none⟩) n cap, .agg #[.int .i32 (js.getD x 0 : Nat), .int .i32 (fr es (js.getD x 0) : Nat), .int .i32 (to es (js.getD x 0) : Nat), .int .i32 (mEnd bs es (js.getD x 0) : Nat)]] (grow (w.drewN q) os) fun e w' => e = .returned (.slice (some ⟨B, fr es (js.getD x 0), none⟩) (nmB bs es (js.getD x 0)).length (cap - fr es (js.getD x 0))) ∧ ∃ q' os', w' = grow ((grow (w.drewN q) os).drewN q') os') := by
    intro q os
    unfold nmB
    rw [bl_length]
    exact name_gr O B n cap _ _ _ _ (by omega) hnx.1 (by omega) (by omega) hcap h.hn
  have C2 : Hid (∀ q os, Calls Tryz.prog 47 #[.pointer (some ⟨O, 0, none⟩), .slice (some ⟨B, 0, none⟩) n cap, .agg #[.int .i32 (js.getD y 0 : Nat), .int .i32 (fr es (js.getD y 0) : Nat), .int .i32 (to es (js.getD y 0) : Nat), .int .i32 (mEnd bs es (js.getD y 0) : Nat)]] (grow (w.drewN q) os) fun e w' => e = .returned (.slice (some ⟨B, fr es (js.getD y 0), none⟩) (nmB bs es (js.getD y 0)).length (cap - fr es (js.getD y 0))) ∧ ∃ q' os', w' = grow ((grow (w.drewN q) os).drewN q') os') := by
    intro q os
    unfold nmB
    rw [bl_length]
    exact name_gr O B n cap _ _ _ _ (by omega) hny.1 (by omega) (by omega) hcap h.hn
  have C3 : Hid (∀ q os, Calls Tryz.prog 46 #[.slice (some ⟨B, fr es (js.getD x 0), none⟩) (nmB bs es (js.getD x 0)).length (cap - fr es (js.getD x 0)), .slice (some ⟨B, fr es (js.getD y 0), none⟩) (nmB bs es (js.getD y 0)).length (cap - fr es (js.getD y 0))] (grow (w.drewN q) os) fun e w' => e = .returned (.int .i64 (cmpB (nmB bs es (js.getD x 0)) (nmB bs es (js.getD y 0)))) ∧ ∃ q' os', w' = grow ((grow (w.drewN q) os).drewN q') os') := by
    intro q os
    have hg : ∀ j i, to es j < n → i < (nmB bs es j).length → (grow (w.drewN q) os).cell? ⟨B, fr es j + i, none⟩ = some (.int .u8 ((nmB bs es j).getD i 0 : Nat)) := by
      intro j i hj hi
      have hi' := hi
      unfold nmB at hi'
      rw [bl_length] at hi'
      rw [(hS q os).txt.at _ (by omega)]
      unfold nmB at hi ⊢
      rw [List.getD_eq_getElem?_getD, List.getElem?_eq_getElem hi, bl_get]
      rfl
    have l1 : (nmB bs es (js.getD x 0)).length ≤ 40000 := by unfold nmB; rw [bl_length]; have := h.hn; omega
    have l2 : (nmB bs es (js.getD y 0)).length ≤ 40000 := by unfold nmB; rw [bl_length]; have := h.hn; omega
    refine (compareUTF16_any (nmB bs es (js.getD x 0)) (nmB bs es (js.getD y 0)) B B _ _ _ _ (grow (w.drewN q) os) l1 l2 (fun i hi => hg _ i hnx.2 hi) (fun i hi => hg _ i hny.2 hi)).mono ?_
    rintro e w' ⟨he, q', rfl⟩
    exact ⟨he, q', #[], by rw [Go.Sort.grow_empty]⟩
  clear hS h hE hck
  generalize (nmB bs es (js.getD x 0)).length = nx at *
  generalize (nmB bs es (js.getD y 0)).length = ny at *
  generalize cmpB (nmB bs es (js.getD x 0)) (nmB bs es (js.getD y 0)) = cc at *
  generalize mEnd bs es (js.getD x 0) = m1 at *
  generalize mEnd bs es (js.getD y 0) = m2 at *
  generalize fr es (js.getD x 0) = fx at *
  generalize fr es (js.getD y 0) = fy at *
  generalize to es (js.getD x 0) = tx at *
  generalize to es (js.getD y 0) = ty at *
  generalize js.getD x 0 = jx at *
  generalize js.getD y 0 = jy at *
  have b1 : (x : Int) < (js.length : Int) := by omega
  have b2 : (y : Int) < (js.length : Int) := by omega
  go_enter Tryz.func51, Tryz.ntmps51
  go_wp2
  refine wp_region_quiet_grown mixed (by kernel_rfl) ?_
  quiet_step (fail)
  quiet_step (fail)
  quiet_step (fail)
  quiet_step (fail)
  quiet_step (fail)
  quiet_step (fail)
  quiet_step (exact Calls.grown_of (C1.out _ _))
  quiet_step (fail)
  quiet_step (fail)
  quiet_step (fail)
  quiet_step (fail)
  quiet_step (fail)
  quiet_step (fail)
  quiet_step (exact Calls.grown_of (C2.out _ _))
  quiet_step (exact Calls.grown_of (C3.out _ _))
  quiet_step (fail)
  refine wpQuiet_nil ?_
  intro _ hw'
  obtain ⟨⟨nq, osq⟩, hw''⟩ := hw'
  subst hw''
  go_wp2
  go_ret
  exact ⟨rfl, nq, osq, rfl⟩

end Go.Proofs.Qxb6616638aGreatFmt
