/-
  slices.Sort at []uint64 over this program: walk texts turned from the kit's worked sort at []int.
-/
import Derived.Test.Qxb6616638aGreatFmtSu0
import Derived.Sort.WalkD1
namespace Go.Proofs.Qxb6616638aGreatFmt
open Go.RowKit Go.Sort
set_option linter.unusedVariables false
set_option maxRecDepth 100000

theorem holds_asideU {w : World} {blk off sb so n t : Nat} {d : Array Int} (h : Holds (Value.int .u64) w blk off d) (hne : sb ≠ blk) : Holds (Value.int .u64) (putRow (Value.int .i64) (Sort.ahead w n) sb so (one t)) blk off d := fun j hj =>
  ⟨by rw [cell?_putRow_other _ _ _ _ _ _ (Or.inl (Ne.symm hne))]; exact (h j hj).1, by rw [frozen?_putRow]; exact (h j hj).2⟩

set_option maxHeartbeats 1000000 in
theorem Su.order2_int (d : Array Int) (len : Nat) (hlen : d.size = len) (blk off cap a b sb so s : Nat) (w : World) (hH : Holds (Value.int .u64) w blk off d) (ha : a < d.size) (hb : b < d.size)
    (hS : Holds (Value.int .i64) w sb so (one s)) (hs : s < 2 ^ 62) :
    Calls Tryz.prog 97 #[.slice (some ⟨blk, off, none⟩) len cap, .int .i64 a, .int .i64 b, .pointer (some ⟨sb, so, none⟩)] w fun e w' =>
      e = .returned (.tuple #[.int .i64 (order2 ltInt d a b s).1, .int .i64 (order2 ltInt d a b s).2.1]) ∧ ∃ n, w' = putRow (Value.int .i64) (Sort.ahead w n) sb so (one (order2 ltInt d a b s).2.2) := by
  subst hlen
  replace hs : s < 4611686018427387904 := by omega
  have ca := (hH a ha).1
  have cb := (hH b hb).1
  obtain ⟨cs, fs⟩ := one_cell hS
  have ea : d[a]! = d[a] := getElem!_pos d a ha
  have eb : d[b]! = d[b] := getElem!_pos d b hb
  go_enter Tryz.func97, Tryz.ntmps97
  go_wp2
  go_region_with (go_at_call 67; refine (Su.cmp_Less_int _ _ _).mono ?_; rintro e w' ⟨rfl, rfl⟩)
  all_goals (try go_wp2)
  all_goals first
    | (have hlt : ltInt d[b] d[a] = true := by assumption
       have e2 : order2 ltInt d a b s = (b, a, s + 1) := by simp [order2, ea, eb, hlt]
       go_ret2
       rw [e2]
       refine ⟨rfl, 1, ?_⟩
       rw [putRow_ahead, ← one_set hS (s + 1)]
       simp [drew_eq_ahead])
    | (have hlt : ltInt d[b] d[a] = false := by assumption
       have e2 : order2 ltInt d a b s = (a, b, s) := by simp [order2, ea, eb, hlt]
       go_ret2
       rw [e2]
       refine ⟨rfl, 1, ?_⟩
       rw [putRow_ahead, putRow_self _ _ _ _ _ hS]
       rfl)

set_option maxHeartbeats 1000000 in
set_option maxRecDepth 100000 in
theorem Su.median_int (d : Array Int) (len : Nat) (hlen : d.size = len) (blk off cap a b c sb so s : Nat) (w : World) (hH : Holds (Value.int .u64) w blk off d) (ha : a < d.size) (hb : b < d.size) (hc : c < d.size) (hne : sb ≠ blk)
    (hS : Holds (Value.int .i64) w sb so (one s)) (hs : s + 3 < 2 ^ 62) :
    Calls Tryz.prog 85 #[.slice (some ⟨blk, off, none⟩) len cap, .int .i64 a, .int .i64 b, .int .i64 c, .pointer (some ⟨sb, so, none⟩)] w fun e w' =>
      e = .returned (.int .i64 (median ltInt d a b c s).1) ∧ ∃ n, w' = putRow (Value.int .i64) (Sort.ahead w n) sb so (one (median ltInt d a b c s).2) := by
  subst hlen
  have l1 := order2_lt d s ha hb
  have s1 := order2_swaps d a b s
  have l2 := order2_lt d (order2 ltInt d a b s).2.2 l1.2 hc
  have s2 := order2_swaps d (order2 ltInt d a b s).2.1 c (order2 ltInt d a b s).2.2
  go_enter Tryz.func85, Tryz.ntmps85
  -- WHICH OF THE THREE CALLS IT IS, IS TOLD BY AN ARGUMENT THAT THE OTHERS LACK ('go_at_call_of'): a contract that does not fit is not harmless: 'refine' lays both calls open
  go_wp2_with (go_at_call_of 97 (Value.int .i64 (b : Int)); refine (Su.order2_int d _ rfl blk off cap a b sb so s w hH ha hb hS (by omega)).mono ?_; rintro e w' ⟨rfl, n1, rfl⟩)
  go_wp2_with (go_at_call_of 97 (Value.int .i64 (c : Int)); refine (Su.order2_int d _ rfl blk off cap (order2 ltInt d a b s).2.1 c sb so (order2 ltInt d a b s).2.2 _ (holds_asideU hH hne) l1.2 hc (holds_one hS) (by omega)).mono ?_; rintro e w' ⟨rfl, n2, rfl⟩)
  go_wp2_with (go_at_call_of 97 (Value.int .i64 ((order2 ltInt d a b s).1 : Int)); refine (Su.order2_int d _ rfl blk off cap (order2 ltInt d a b s).1 (order2 ltInt d (order2 ltInt d a b s).2.1 c (order2 ltInt d a b s).2.2).1 sb so (order2 ltInt d (order2 ltInt d a b s).2.1 c (order2 ltInt d a b s).2.2).2.2 _
    (holds_asideU (holds_asideU hH hne) hne) l1.1 l2.1 (holds_one (holds_one hS)) (by omega)).mono ?_; rintro e w' ⟨rfl, n3, rfl⟩)
  go_ret
  refine ⟨rfl, n1 + (n2 + n3), ?_⟩
  rw [one_one, one_one]
  rfl

end Go.Proofs.Qxb6616638aGreatFmt
