/-
  THE WALKS of push and closeAt on a list of entries; of zzScalarEnd.
-/
import Derived.Test.Qxb6616638aGreatFmtPush
import Derived.Test.Qxb6616638aGreatFmtTree
namespace Go.Proofs.Qxb6616638aGreatFmt
open Go.RowKit
open Plain
set_option linter.unusedVariables false
set_option maxRecDepth 100000

/-- The five slices' cells for a list of entries. -/
def encE (es : List Ent) : Nat → List Value := fun i =>
  if i = 0 then es.map (fun e => .int .i32 (e.st : Int)) else if i = 1 then es.map (fun e => .int .i32 (e.en : Int)) else if i = 2 then es.map (fun e => .bool e.cl) else if i = 3 then es.map (fun e => .bool e.nm) else if i = 4 then es.map (fun e => .int .i32 e.pa) else []

theorem encE_length (es : List Ent) (i : Nat) (hi : i < 5) : (encE es i).length = es.length := by
  have : i = 0 ∨ i = 1 ∨ i = 2 ∨ i = 3 ∨ i = 4 := by omega
  rcases this with rfl | rfl | rfl | rfl | rfl <;> simp [encE]

theorem pushX_enc (es : List Ent) (st en : Nat) (cl nm : Bool) (pa : Int) : pushX (encE es) st en cl nm pa = encE (es ++ [⟨st, en, cl, nm, pa⟩]) := by
  funext i
  unfold pushX
  by_cases h4 : i = 4
  · subst h4
    rw [app_same, app_other _ _ (by omega), app_other _ _ (by omega), app_other _ _ (by omega), app_other _ _ (by omega)]
    simp [encE]
  rw [app_other _ _ h4]
  by_cases h3 : i = 3
  · subst h3
    rw [app_same, app_other _ _ (by omega), app_other _ _ (by omega), app_other _ _ (by omega)]
    simp [encE]
  rw [app_other _ _ h3]
  by_cases h2 : i = 2
  · subst h2
    rw [app_same, app_other _ _ (by omega), app_other _ _ (by omega)]
    simp [encE]
  rw [app_other _ _ h2]
  by_cases h1 : i = 1
  · subst h1
    rw [app_same, app_other _ _ (by omega)]
    simp [encE]
  rw [app_other _ _ h1]
  by_cases h0 : i = 0
  · subst h0
    rw [app_same]
    simp [encE]
  rw [app_other _ _ h0]
  simp [encE, h0, h1, h2, h3, h4]

/-- The tape's memory holds these entries. -/
def Tp (w : World) (B0 T : Nat) (es : List Ent) : Prop := ∃ v, TS w B0 T v (encE es)

variable {w : World} {B0 T : Nat} {es : List Ent}

theorem Tp.drewN (h : Tp w B0 T es) (q : Nat) : Tp (w.drewN q) B0 T es := by
  obtain ⟨v, hv⟩ := h
  exact ⟨v, hv.drewN q⟩
theorem Tp.base (h : Tp w B0 T es) : B0 ≤ T := by
  obtain ⟨v, hv⟩ := h
  exact hv.base
theorem Tp.lt (h : Tp w B0 T es) : T < w.heap.size := by
  obtain ⟨v, hv⟩ := h
  exact hv.lt

theorem pushE_any (st en : Nat) (cl nm : Bool) (pa : Int) (h : Tp w B0 T es) (hL : es.length ≤ 16384) (hst : st ≤ 20000) (hen : en ≤ 20000) (hpa : -1 ≤ pa) (hpa2 : pa ≤ 20000) :
    Calls Tryz.prog 27 #[.pointer (some ⟨T, 0, none⟩), .int .i64 st, .int .i64 en, .bool cl, .bool nm, .int .i64 pa] w fun e w' =>
      e = .returned (.int .i64 es.length) ∧ Tp w' B0 T (es ++ [⟨st, en, cl, nm, pa⟩]) ∧ Below B0 w w' := by
  obtain ⟨v, hv⟩ := h
  refine (push_any es.length st en cl nm pa hv (fun i hi => encE_length es i hi) hL hst hen hpa hpa2).mono ?_
  rintro e w' ⟨rfl, ⟨v', h'⟩, hb⟩
  rw [pushX_enc] at h'
  exact ⟨rfl, ⟨v', h'⟩, hb⟩

/-- A store into the ends' row. -/
theorem TS.store {v : Nat → Value} {xs : Nat → List Value} {g n cap k : Nat} {x : Value} (h : TS w B0 T v xs) (hv : v 1 = .slice (some ⟨g, 0, none⟩) n cap) (hn : (xs 1).length = n) (hk : k < n) :
    TS (w.setCell ⟨g, k, none⟩ x) B0 T v (upd xs 1 ((xs 1).set k x)) ∧ (∃ u, w.cell? ⟨g, k, none⟩ = some u) ∧ w.frozen? ⟨g, k, none⟩ = false ∧ Below B0 w (w.setCell ⟨g, k, none⟩ x) := by
  have hob : (v 1).ownBlock = some g := by rw [hv]; rfl
  have hgT : g ≠ T := fun e => h.apartT 1 (by omega) (by rw [hob, e])
  have hset := grownBy_setCell w ⟨g, k, none⟩ x
  obtain ⟨hlen, hrow⟩ := h.own 1 (by omega)
  have hbase := (h.own 1 (by omega)).lt g hob
  rcases hrow with ⟨e, _⟩ | ⟨g', cap', cur, e, hb, hg, hle, hm, hs, ht⟩
  · rw [hv] at e; cases e
  rw [hv] at e
  cases e
  have hkc : k < cur.size := by omega
  refine ⟨⟨h.base, ?_, ?_, h.apart, h.apartT⟩, ?_, ?_, (Below.refl _ _).setCell (p := ⟨g, k, none⟩) hbase.1 x⟩
  · obtain ⟨cs, hb1, h5, hc⟩ := h.blk
    exact ⟨cs, by rw [hset.block T h.lt (by simpa using Ne.symm hgT)]; exact hb1, h5, hc⟩
  · intro i hi
    by_cases e1 : i = 1
    · subst e1
      rw [upd_same, hv]
      refine ⟨by simp, .inr ⟨g, cap, cur.setIfInBounds k x, by simp, hb, heap_setCell_self w g k cur _ _ x hg, by simpa using hle, hm, by simpa using hs, ?_⟩⟩
      rw [Array.toList_setIfInBounds]
      simp only [List.length_set, Nat.mul_one] at ht ⊢
      rw [List.take_set, ht]
    · rw [upd_other _ _ e1]
      refine (h.own i hi).kept hset ?_
      rcases h.apart i 1 hi (by omega) e1 with e2 | e2
      · exact .inl e2
      · rw [hob] at e2
        exact .inr e2
  · refine ⟨cur[k], ?_⟩
    rw [cell_of_row w g k cur _ _ hg]
    exact Array.getElem?_eq_getElem hkc
  · unfold World.frozen?
    rw [hg]
    simp

theorem enc_setEn (es : List Ent) (k c : Nat) (e : Ent) (hk : k < es.length) (he : at_ es k = e) : upd (encE es) 1 ((encE es 1).set k (.int .i32 (c : Int))) = encE (es.set k ⟨e.st, c, e.cl, e.nm, e.pa⟩) := by
  have hek : es[k] = e := by
    rw [← he]
    simp [at_, List.getD_eq_getElem?_getD, hk]
  funext i
  by_cases h1 : i = 1
  · subst h1
    rw [upd_same]
    simp [encE, List.map_set]
  · rw [upd_other _ _ h1]
    have hs : ∀ (f : Ent → Value), f ⟨e.st, c, e.cl, e.nm, e.pa⟩ = f e → (es.map f) = (es.set k ⟨e.st, c, e.cl, e.nm, e.pa⟩).map f := by
      intro f hf
      rw [List.map_set, hf, ← hek]
      apply List.ext_getElem?
      intro j
      by_cases e : j = k
      · subst e
        rw [List.getElem?_set_self (by simpa using hk)]
        simp [hk]
      · rw [List.getElem?_set_ne (Ne.symm e)]
    unfold encE
    by_cases h0 : i = 0
    · simp only [h0, if_true]; exact hs _ rfl
    by_cases h2 : i = 2
    · simp only [h2, if_true]; exact hs (fun e => .bool e.cl) rfl
    by_cases h3 : i = 3
    · simp only [h3, if_true]; exact hs (fun e => .bool e.nm) rfl
    by_cases h4 : i = 4
    · simp only [h4, if_true]; exact hs (fun e => .int .i32 e.pa) rfl
    simp [h0, h1, h2, h3, h4]

set_option maxHeartbeats 1000000 in
theorem closeAt_any (k at' : Nat) (en : Ent) (h : Tp w B0 T es) (hL : es.length ≤ 16383) (hk : k < es.length) (hat : at' ≤ 16384) (he : at_ es k = en) :
    Calls Tryz.prog 28 #[.pointer (some ⟨T, 0, none⟩), .int .i64 k, .int .i64 at'] w fun e w' =>
      e = .returned (.tuple #[]) ∧ Tp w' B0 T ((es ++ [Ent.mk at' (at' + 1) true false k]).set k (Ent.mk en.st es.length en.cl en.nm en.pa)) ∧ Below B0 w w' := by
  have HE := hide he
  have H := hide h
  clear h he
  go_enter Tryz.func28, Tryz.ntmps28
  go_wp2_with fail
  have ea : ((at' : Int) + 1) = ((at' + 1 : Nat) : Int) := by omega
  rw [ea]
  clear ea
  refine (pushE_any at' (at' + 1) true false k H.out (by omega) (by omega) (by omega) (by omega) (by omega)).mono ?_
  rintro e w1 ⟨rfl, ht, hb⟩
  obtain ⟨v1, hv1⟩ := ht
  have hlen : (encE (es ++ [Ent.mk at' (at' + 1) true false (k : Int)]) 1).length = es.length + 1 := by rw [encE_length _ _ (by omega)]; simp
  have own1 := hv1.own 1 (by omega)
  obtain ⟨g, cap, hv, hg0, hg1⟩ := own1.form (by rw [hlen]; omega)
  rw [hlen] at hv
  obtain ⟨hst, ⟨u, hu⟩, hf, hb2⟩ := hv1.store (x := .int .i32 (es.length : Int)) hv hlen (show k < es.length + 1 by omega)
  have c1 := hv1.cell 1 (by omega)
  rw [hv] at c1
  have HS := hide hst
  have HB2 := hide hb2
  have HV1 := hide hv1
  have hki : (k : Int) < (es.length : Int) + 1 := by omega
  have hk0 : (0 : Int) ≤ (k : Int) := by omega
  clear hst hb2 hv1 own1 hv hlen hg0 hg1
  go_wp2
  go_end0
  refine ⟨rfl, ⟨v1, ?_⟩, hb.trans HB2.out⟩
  rw [← enc_setEn (es ++ [Ent.mk at' (at' + 1) true false (k : Int)]) k es.length en (by simp; omega) (by rw [at_append_left hk]; exact HE.out)]
  exact HS.out

theorem scalar_any (B n cap i : Nat) (bs : Nat → Nat) (w : World) (hn : n ≤ 16383) (hi : i < n) (ht : Txt w B n bs) :
    Calls Tryz.prog 26 #[.slice (some ⟨B, 0, none⟩) n cap, .int .i64 i] w (EndGives w (fun e => i < e ∧ e ≤ n)) := by
  have HT := hide ht
  have hc := ht.at i hi
  have hii : (i : Int) < (n : Int) := by omega
  have hi0 : (0 : Int) ≤ (i : Int) := by omega
  clear ht
  generalize bs i = x at hc
  by_cases h1 : x = 34
  · subst h1
    go_enter Tryz.func26, Tryz.ntmps26
    go_wp2_with fail
    refine (string_any B n cap i bs _ hn hi HT.out).mono ?_
    rintro e w' ⟨h, q, rfl⟩
    rcases h with rfl | ⟨k, rfl, hk⟩
    · go_wp2
      go_ret
      exact ⟨.inl rfl, q, rfl⟩
    · have HK := hide hk
      clear hk
      go_wp2
      go_ret
      exact ⟨.inr ⟨k, rfl, by have := HK.out.1; omega, HK.out.2.1⟩, q, rfl⟩
  have h1' : ((x : Int) == 34) = false := by simp; omega
  by_cases h2 : x = 116
  · subst h2
    go_enter Tryz.func26, Tryz.ntmps26
    go_wp2_with fail
    refine (word_any B n cap i bs _ _ hn hi HT.out (by decide) (by decide)).mono ?_
    rintro e w' ⟨h, q, rfl⟩
    rcases h with rfl | ⟨k, rfl, hk⟩
    · go_wp2
      go_ret
      exact ⟨.inl rfl, q, rfl⟩
    · go_wp2
      go_ret
      exact ⟨.inr ⟨k, rfl, hk⟩, q, rfl⟩
  have h2' : ((x : Int) == 116) = false := by simp; omega
  by_cases h3 : x = 102
  · subst h3
    go_enter Tryz.func26, Tryz.ntmps26
    go_wp2_with fail
    refine (word_any B n cap i bs _ _ hn hi HT.out (by decide) (by decide)).mono ?_
    rintro e w' ⟨h, q, rfl⟩
    rcases h with rfl | ⟨k, rfl, hk⟩
    · go_wp2
      go_ret
      exact ⟨.inl rfl, q, rfl⟩
    · go_wp2
      go_ret
      exact ⟨.inr ⟨k, rfl, hk⟩, q, rfl⟩
  have h3' : ((x : Int) == 102) = false := by simp; omega
  by_cases h4 : x = 110
  · subst h4
    go_enter Tryz.func26, Tryz.ntmps26
    go_wp2_with fail
    refine (word_any B n cap i bs _ _ hn hi HT.out (by decide) (by decide)).mono ?_
    rintro e w' ⟨h, q, rfl⟩
    rcases h with rfl | ⟨k, rfl, hk⟩
    · go_wp2
      go_ret
      exact ⟨.inl rfl, q, rfl⟩
    · go_wp2
      go_ret
      exact ⟨.inr ⟨k, rfl, hk⟩, q, rfl⟩
  have h4' : ((x : Int) == 110) = false := by simp; omega
  clear h1 h2 h3 h4
  go_enter Tryz.func26, Tryz.ntmps26
  go_wp2_with fail
  refine (number_any B n cap i bs _ hn hi HT.out).mono ?_
  rintro e w' ⟨h, q, rfl⟩
  rcases h with rfl | ⟨k, rfl, hk⟩
  · go_wp2
    go_ret
    exact ⟨.inl rfl, q, rfl⟩
  · go_wp2
    go_ret
    exact ⟨.inr ⟨k, rfl, hk⟩, q, rfl⟩

end Go.Proofs.Qxb6616638aGreatFmt
