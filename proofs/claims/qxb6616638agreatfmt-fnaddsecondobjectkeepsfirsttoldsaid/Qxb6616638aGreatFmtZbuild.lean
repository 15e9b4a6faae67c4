/-
  THE WALKS of value whole, and of zzBuild.
-/
import Derived.Test.Qxb6616638aGreatFmtValueA
import Derived.Test.Qxb6616638aGreatFmtValueO
import Derived.Deep.RegionWith
namespace Go.Proofs.Qxb6616638aGreatFmt
open Go.RowKit
open Plain
set_option linter.unusedVariables false
set_option maxRecDepth 100000
variable {B n cap B0 T : Nat} {bs : Nat → Nat}

theorem value_any (hn : n ≤ 16383) (hB : B < B0) : ∀ N, ValUpTo B n cap bs B0 T N
  | 0 => fun es i parent w h => absurd h (Nat.not_lt_zero _)
  | N + 1 => fun es i parent w h hi hL hp hp2 ht hx => by
    by_cases hin : i < n
    · by_cases h1 : bs i = 123
      · exact value_object N (value_any hn hB N) es i parent w h hn hin hL hp hp2 ht hx hB h1
      · by_cases h2 : bs i = 91
        · exact value_array N (value_any hn hB N) es i parent w h hn hin hL hp hp2 ht hx hB h2
        · exact value_scalar es i parent w hn hin hL hp hp2 ht hx hB h1 h2
    · exact value_out es i parent w (by omega) hi ht

/-- WHAT IS KNOWN OF A TAPE THAT WAS BUILT: every entry lies in the text, every object's members are a chain. -/
structure Built (bs : Nat → Nat) (n : Nat) (es : List Ent) : Prop where
  len : es.length ≤ n
  ok : ∀ x, x < es.length → Fits n es x ∧ ObjOK bs n es x

/-- The five slices of a tape: values v, the entries es. -/
def Rows5 (w : World) (base : Nat) (v : Nat → Value) (es : List Ent) : Prop := ∀ i, i < 5 → w.ownsRow base (ety i) 1 (v i) es.length (encE es i)

theorem Built.of {es : List Ent} {i j : Nat} (h : ValPost bs n [] es i (-1) j) : Built bs n es := by
  refine ⟨?_, fun x hx => h.ok x (Nat.zero_le _) hx⟩
  have h1 := h.room
  have h2 := h.jn
  simp at h1
  omega

theorem _root_.Go.World.ownsRow.one {w : World} {base : Nat} {e : TypeId} {size : Nat} {v : Value} {n : Nat} {xs : List Value} (h : w.ownsRow base e size v n xs) : v.oneCell' = true := by
  rcases h.2 with ⟨rfl, _⟩ | ⟨g, cap, cur, rfl, _⟩ <;> rfl

theorem _root_.Go.World.ownsRow.isSlice {w : World} {base : Nat} {e : TypeId} {size : Nat} {v : Value} {n : Nat} {xs : List Value} (h : w.ownsRow base e size v n xs) : ∃ a l c, v = .slice a l c := by
  rcases h.2 with ⟨rfl, _⟩ | ⟨g, cap, cur, rfl, _⟩
  · exact ⟨_, _, _, rfl⟩
  · exact ⟨_, _, _, rfl⟩

def set5 (W : World) (A : Nat) (x0 x1 x2 x3 x4 : Value) : World := ((((W.setCell ⟨A, 0, none⟩ x0).setCell ⟨A, 1, none⟩ x1).setCell ⟨A, 2, none⟩ x2).setCell ⟨A, 3, none⟩ x3).setCell ⟨A, 4, none⟩ x4
theorem below_set5 (W : World) (A : Nat) (x0 x1 x2 x3 x4 : Value) : Below A W (set5 W A x0 x1 x2 x3 x4) := by
  unfold set5
  refine Below.setCell (p := ⟨A, 4, none⟩) ?_ (Nat.le_refl _) _
  refine Below.setCell (p := ⟨A, 3, none⟩) ?_ (Nat.le_refl _) _
  refine Below.setCell (p := ⟨A, 2, none⟩) ?_ (Nat.le_refl _) _
  refine Below.setCell (p := ⟨A, 1, none⟩) ?_ (Nat.le_refl _) _
  exact Below.setCell (p := ⟨A, 0, none⟩) (Below.refl _ _) (Nat.le_refl _) _
theorem grownBy_trans {a b c : World} {row : Option Nat} (h1 : a.grownBy b row) (h2 : b.grownBy c row) : a.grownBy c row :=
  ⟨h2.os.trans h1.os, h2.tape.trans h1.tape, h2.output.trans h1.output, Nat.le_trans h1.size h2.size, fun k hk hr => (h2.block k (Nat.lt_of_lt_of_le hk h1.size) hr).trans (h1.block k hk hr)⟩
theorem grown_set5 (W : World) (A : Nat) (x0 x1 x2 x3 x4 : Value) : W.grownBy (set5 W A x0 x1 x2 x3 x4) (some A) := by
  unfold set5
  exact grownBy_trans (grownBy_trans (grownBy_trans (grownBy_trans (grownBy_setCell W ⟨A, 0, none⟩ x0) (grownBy_setCell _ ⟨A, 1, none⟩ x1)) (grownBy_setCell _ ⟨A, 2, none⟩ x2)) (grownBy_setCell _ ⟨A, 3, none⟩ x3)) (grownBy_setCell _ ⟨A, 4, none⟩ x4)

theorem grownBy_drew (w : World) : w.grownBy w.drew none := ⟨rfl, rfl, rfl, Nat.le_refl _, fun _ _ _ => rfl⟩
theorem _root_.Go.World.ownsRow.rebase {w : World} {base base' : Nat} {e : TypeId} {size : Nat} {v : Value} {n : Nat} {xs : List Value} (h : w.ownsRow base e size v n xs) (hb : base' ≤ base) : w.ownsRow base' e size v n xs := by
  refine ⟨h.1, ?_⟩
  rcases h.2 with h | ⟨g, cap, cur, a, b, c⟩
  · exact .inl h
  · exact .inr ⟨g, cap, cur, a, by omega, c⟩

/-- A fresh tape. -/
theorem Tp.fresh (w : World) (B0 : Nat) (h : B0 ≤ w.heap.size) : Tp (w.alloc (.cells #[.slice none 0 0, .slice none 0 0, .slice none 0 0, .slice none 0 0, .slice none 0 0] 27)) B0 w.heap.size [] := by
  refine ⟨fun _ => .slice none 0 0, h, ⟨_, heap_alloc_new w _, rfl, ?_⟩, fun i hi => ?_, fun i j _ _ _ => .inl rfl, fun i _ => by simp [Value.ownBlock]⟩
  · intro i hi
    have : i = 0 ∨ i = 1 ∨ i = 2 ∨ i = 3 ∨ i = 4 := by omega
    rcases this with rfl | rfl | rfl | rfl | rfl <;> rfl
  · have : encE [] i = [] := by simp [encE]
    rw [this]
    exact World.ownsRow_nil _ _ _ _

/-- What zzBuild gives. -/
def BuildGives (bs : Nat → Nat) (n : Nat) (w : World) (e : Ending) (w' : World) : Prop :=
  Below w.heap.size w w' ∧ ∃ (v : Nat → Value) (ok : Bool), e = .returned (.tuple #[.agg #[v 0, v 1, v 2, v 3, v 4], .bool ok]) ∧ (∀ i, i < 5 → (v i).oneCell' = true) ∧ (ok = true → ∃ es, Rows5 w' w.heap.size v es ∧ Built bs n es)

set_option maxHeartbeats 2000000 in
theorem zzBuild_any (w : World) (hn : n ≤ 16383) (hx : Txt w B n bs) (hB : B < w.heap.size) :
    Calls Tryz.prog 6 #[.slice (some ⟨B, 0, none⟩) n cap] w (BuildGives bs n w) := by
  have HX := hide hx
  clear hx
  go_enter Tryz.func6, Tryz.ntmps6
  go_wp2_with fail
  have HXa : Hid (Txt ((w.alloc (.cells #[.slice none 0 0, .slice none 0 0, .slice none 0 0, .slice none 0 0, .slice none 0 0] 27)).alloc (.cells #[.slice none 0 0, .slice none 0 0, .slice none 0 0, .slice none 0 0, .slice none 0 0] 27)) B n bs) :=
    HX.out.below (((Below.refl w.heap.size w).alloc (Nat.le_refl _) _).alloc (by simp) _) hB
  have HTa : Hid (Tp ((w.alloc (.cells #[.slice none 0 0, .slice none 0 0, .slice none 0 0, .slice none 0 0, .slice none 0 0] 27)).alloc (.cells #[.slice none 0 0, .slice none 0 0, .slice none 0 0, .slice none 0 0, .slice none 0 0] 27)) (w.heap.size + 1) (w.heap.size + 1) []) := by
    have := Tp.fresh (w.alloc (.cells #[.slice none 0 0, .slice none 0 0, .slice none 0 0, .slice none 0 0, .slice none 0 0] 27)) (w.heap.size + 1) (by simp)
    rw [World.size_alloc] at this
    exact this
  have HBa : Hid (Below w.heap.size w ((w.alloc (.cells #[.slice none 0 0, .slice none 0 0, .slice none 0 0, .slice none 0 0, .slice none 0 0] 27)).alloc (.cells #[.slice none 0 0, .slice none 0 0, .slice none 0 0, .slice none 0 0, .slice none 0 0] 27))) := ((Below.refl w.heap.size w).alloc (Nat.le_refl _) _).alloc (by simp) _
  have HRa : Hid (((w.alloc (.cells #[.slice none 0 0, .slice none 0 0, .slice none 0 0, .slice none 0 0, .slice none 0 0] 27)).alloc (.cells #[.slice none 0 0, .slice none 0 0, .slice none 0 0, .slice none 0 0, .slice none 0 0] 27)).heap[w.heap.size]? = some (.cells #[.slice none 0 0, .slice none 0 0, .slice none 0 0, .slice none 0 0, .slice none 0 0] 27 (0, 0))) := by
    show _ = _
    rw [Below.heap_alloc _ _ _ (by simp)]
    exact heap_alloc_new w _
  have HZ0 : Hid (((0 : Nat) : Int) = 0) := rfl
  refine (skip_any B n cap 0 bs _ hn (by omega) HXa.out).mono ?_
  rintro e w1 ⟨⟨j0, rfl, _, hj0⟩, rfl⟩
  generalize (w.alloc (.cells #[.slice none 0 0, .slice none 0 0, .slice none 0 0, .slice none 0 0, .slice none 0 0] 27)).alloc (.cells #[.slice none 0 0, .slice none 0 0, .slice none 0 0, .slice none 0 0, .slice none 0 0] 27) = wa at HXa HTa HBa HRa ⊢
  go_wp2_with fail
  refine (value_any (B := B) (n := n) (cap := cap) (B0 := w.heap.size + 1) (T := w.heap.size + 1) (bs := bs) hn (by omega) (n + 1) [] j0 (-1) _ (by omega) (by omega) (by simp) (by omega) (by simp) HTa.out HXa.out).mono ?_
  rintro e wv ⟨⟨es, htv, hv⟩, hbv⟩
  obtain ⟨v, hts⟩ := htv
  have HTS := hide hts
  have HBv := hide hbv
  have t0 := hts.cell 0 (by omega)
  have t1 := hts.cell 1 (by omega)
  have t2 := hts.cell 2 (by omega)
  have t3 := hts.cell 3 (by omega)
  have t4 := hts.cell 4 (by omega)
  have hone : ∀ i, i < 5 → (v i).oneCell' = true := fun i hi => (hts.own i hi).one
  obtain ⟨a0, l0, k0, e0⟩ := (hts.own 0 (by omega)).isSlice
  rw [e0] at t0
  have E0 := hide e0
  clear e0
  obtain ⟨a1, l1, k1, e1⟩ := (hts.own 1 (by omega)).isSlice
  rw [e1] at t1
  have E1 := hide e1
  clear e1
  obtain ⟨a2, l2, k2, e2⟩ := (hts.own 2 (by omega)).isSlice
  rw [e2] at t2
  have E2 := hide e2
  clear e2
  obtain ⟨a3, l3, k3, e3⟩ := (hts.own 3 (by omega)).isSlice
  rw [e3] at t3
  have E3 := hide e3
  clear e3
  obtain ⟨a4, l4, k4, e4⟩ := (hts.own 4 (by omega)).isSlice
  rw [e4] at t4
  have E4 := hide e4
  clear e4
  have HO := hide hone
  have hrv : wv.heap[w.heap.size]? = some (.cells #[.slice none 0 0, .slice none 0 0, .slice none 0 0, .slice none 0 0, .slice none 0 0] 27 (0, 0)) := (hbv.block w.heap.size (by omega)).trans HRa.out
  have r0 : wv.cell? ⟨w.heap.size, 0, none⟩ = some (.slice none 0 0) := by rw [cell_of_row wv _ 0 _ _ _ hrv]; rfl
  have r1 : wv.cell? ⟨w.heap.size, 1, none⟩ = some (.slice none 0 0) := by rw [cell_of_row wv _ 1 _ _ _ hrv]; rfl
  have r2 : wv.cell? ⟨w.heap.size, 2, none⟩ = some (.slice none 0 0) := by rw [cell_of_row wv _ 2 _ _ _ hrv]; rfl
  have r3 : wv.cell? ⟨w.heap.size, 3, none⟩ = some (.slice none 0 0) := by rw [cell_of_row wv _ 3 _ _ _ hrv]; rfl
  have r4 : wv.cell? ⟨w.heap.size, 4, none⟩ = some (.slice none 0 0) := by rw [cell_of_row wv _ 4 _ _ _ hrv]; rfl
  have rf : ∀ i, wv.frozen? ⟨w.heap.size, i, none⟩ = false := fun i => by unfold World.frozen?; rw [hrv]; simp
  have f0 := rf 0
  have f1 := rf 1
  have f2 := rf 2
  have f3 := rf 3
  have f4 := rf 4
  clear hts hbv hone hrv rf
  have HV := hide hv
  clear hv
  rcases unhide HV with rfl | ⟨j, rfl, hpost⟩
  · go_wp2
    refine bodyPost_ret (v := .tuple #[.agg #[.slice a0 l0 k0, .slice a1 l1 k1, .slice a2 l2 k2, .slice a3 l3 k3, .slice a4 l4 k4], .bool false]) ?_ rfl ?_
    · simp [results, Tryz.results6, go_sem, r0, r1, r2, r3, r4]
    · refine ⟨?_, v, false, ?_, HO.out, fun h => by cases h⟩
      · exact HBa.out.trans ((HBv.out.mono (by omega)).trans (below_set5 wv w.heap.size _ _ _ _ _))
      · rw [E0.out, E1.out, E2.out, E3.out, E4.out]
  · have HP := hide hpost
    have hjn : j ≤ n := hpost.jn
    have hwB : ¬ B = w.heap.size := by omega
    have HXv : Hid (∀ W : World, (∀ i, W.cell? ⟨B, i, none⟩ = wv.cell? ⟨B, i, none⟩) → Txt W B n bs) := fun W hW i hi => ⟨(hW i).trans ((HXa.out.below HBv.out (by omega)).at i hi), (HXa.out i hi).2⟩
    clear hpost HV
    go_wp2
    go_region_with (go_at_call 19; refine (skip_any B n cap j bs _ hn (by omega) (HXv.out _ (fun i => by simp))).mono ?_; rintro e w' ⟨⟨j5, rfl, _, _⟩, hw'⟩; subst hw')
    all_goals go_wp2
    all_goals refine bodyPost_ret (v := .tuple #[.agg #[.slice a0 l0 k0, .slice a1 l1 k1, .slice a2 l2 k2, .slice a3 l3 k3, .slice a4 l4 k4], .bool ((j5 : Int) == (n : Int))]) ?_ rfl ?_
    all_goals first
      | (simp [results, Tryz.results6, go_sem, r0, r1, r2, r3, r4]; done)
      | (refine ⟨?_, v, ((j5 : Int) == (n : Int)), ?_, HO.out, fun _ => ⟨es, ?_, Built.of HP.out⟩⟩
         · exact HBa.out.trans ((HBv.out.mono (by omega)).trans (below_set5 wv w.heap.size _ _ _ _ _).drew)
         · rw [E0.out, E1.out, E2.out, E3.out, E4.out]
         · intro i hi
           have h1 := HTS.out.own i hi
           rw [encE_length _ _ hi] at h1
           have h2 : (set5 wv w.heap.size (.slice a0 l0 k0) (.slice a1 l1 k1) (.slice a2 l2 k2) (.slice a3 l3 k3) (.slice a4 l4 k4)).ownsRow (w.heap.size + 1) (ety i) 1 (v i) es.length (encE es i) := by
             refine h1.kept (grown_set5 _ _ _ _ _ _ _) ?_
             cases hob : (v i).ownBlock with
             | none => exact .inl rfl
             | some g =>
               right
               have := (h1.lt g hob).1
               simp
               omega
           exact (h2.rebase (by omega)).kept (grownBy_drew _) (by cases (v i).ownBlock <;> simp))

end Go.Proofs.Qxb6616638aGreatFmt
