/-
  Statement 4: add over an object with no member, the Names not fresh.
-/
import Derived.Test.Qxb6616638aGreatFmtBdd4
namespace Go.Proofs.Qxb6616638aGreatFmt.Two
open Go.Proofs.Qxb6616638aGreatFmt
open Go.RowKit
open Go.Extern.Stop Go.Stop Go.Extern
open Plain
set_option linter.unusedVariables false
set_option maxRecDepth 100000

variable {w : World}

set_option maxHeartbeats 16000000 in
theorem addMembers_nil (base bd O D B n cap k q : Nat) (bs : Nat → Nat) (es : List Ent) (ak ao : Option Addr) (ck co first : Nat) (ks os_ : List Value) (h : AddEnv w base bd O D B n cap k first q bs es [] (.slice ak first ck) (.slice ao first co) ks os_) :
    Calls Tryz.prog 31 #[.pointer (some ⟨O, 0, none⟩), .slice (some ⟨B, 0, none⟩) n cap, .pointer (some ⟨D, 0, none⟩), .int .i64 k] w fun e w' => e = .returned (.tuple #[.int .u64 0, .int .u64 14695981039346656037, .nilIface]) ∧ ∃ qd, w' = ((w.drewN qd).setCell ⟨O, 0, none⟩ (.slice ak first ck)).setCell ⟨O, 1, none⟩ (.slice ao first co) := by
  obtain ⟨ge, ce, hge, t1, t2⟩ := h.hT.ent
  have hk := h.hk
  have tk := (t2 k hk).2
  have hq : k + 1 = q := h.hch
  rw [h.hq] at tk
  have hf := h.hfirst
  have c0 := h.c0
  have c1 := h.c1
  have f0 := h.fz 0
  have f1 := h.fz 1
  have i1 : (k : Int) < (es.length : Int) := by omega
  have i2 : (0 : Int) ≤ (k : Int) := by omega
  have hn := h.hn
  have hl := h.hbu.len
  obtain ⟨p, hp⟩ : ∃ p, p = k + 1 := ⟨_, rfl⟩
  have hd : decide ((p : Int) < (q : Int)) = false := by simp; omega
  have hqp : ¬ p < q := by omega
  have HP := hide hp
  clear hp
  have hk2 : k ≤ 16383 := by omega
  have hq3 : q ≤ 16383 := by have := h.hql; omega
  have HQ := hide hq
  clear h t2 hq
  go_enter Tryz.func31, Tryz.ntmps31
  go_wp2
  go_quiet (fail)
  go_wp2
  go_quiet (fail)
  go_wp2
  go_loopw [8, 9, 12, 13, 15, 17, 18, 19, 20, 21, 22, 23, 24, 25, 26, 27] (fun v8 v9 v12 v13 v15 _ _ _ _ _ _ _ _ _ _ _ wr => v15 = .int .u64 (p : Int) ∧ v8 = .int .u64 0 ∧ v9 = .int .u64 14695981039346656037 ∧ v12 = .slice ak first ck ∧ v13 = .slice ao first co ∧ ∃ qd, wr = w.drewN qd) (fun _ _ _ _ _ _ _ _ _ _ _ _ _ _ _ _ _ => 0)
  case atStart => exact ⟨by rw [HP.out]; go_num, rfl, rfl, rfl, rfl, _, by first | rfl | exact World.drewN_drewN _ _ _⟩
  case round =>
    rename World => wa
    obtain ⟨rfl, rfl, rfl, rfl, rfl, qd, rfl⟩ := hrel
    go_wp2
    all_goals first
      | (exfalso; omega)
      | (refine bodyPost_ret (v := .tuple #[.int .u64 0, .int .u64 14695981039346656037, .nilIface]) (by simp [results, Tryz.results31, go_sem]) rfl ?_; exact ⟨rfl, qd, rfl⟩)

set_option maxHeartbeats 16000000 in
theorem add_E (F : Interp) (base bd O D B n cap k q : Nat) (bs : Nat → Nat) (es : List Ent) (us : Nat → List Nat) (ak ao : Option Addr) (ck co first : Nat) (ks os_ : List Value) (hak : ak = none ∧ ck = 0 ∨ ∃ g, ak = some ⟨g, 0, none⟩) (hao : ao = none ∧ co = 0 ∨ ∃ g, ao = some ⟨g, 0, none⟩)
    (h : AddEnv w base bd O D B n cap k first q bs es [] (.slice ak first ck) (.slice ao first co) ks os_) :
    Calls Tryz.prog 21 #[.pointer (some ⟨O, 0, none⟩), .slice (some ⟨B, 0, none⟩) n cap, .pointer (some ⟨D, 0, none⟩), .int .i64 k] w (AddGives w base O first us bs es [] ks os_ (KeepO O)) := by
  have hOl := h.lt
  have hOn : O ≠ w.heap.size := by omega
  have hOn2 : O ≠ w.heap.size + 1 := by omega
  have hbO := h.hbase
  have c0 := h.c0
  have c2 := h.c2
  have hf1 := h.hfirst
  have hwf1 : IntKind.i32.wrap (first : Int) = (first : Int) := by rw [IntKind.wrap_i32]; omega
  have H := hide h
  clear h
  go_enter Tryz.func21, Tryz.ntmps21
  go_upto_region 1 with (fail)
  go_region
  obtain ⟨wc, hwc⟩ : ∃ wc, wc = ((w.alloc (.cells #[.int .i32 0, .int .i32 0] 69)).alloc (.cells #[.int .i32 (first : Int), .int .i32 0] 69)).drew := ⟨_, rfl⟩
  obtain ⟨x0, x1, r0, r1, rz, l2, hbc⟩ := start_blocks w first hwc
  rw [← hwc]
  clear hwc
  have hsc := hbc.size
  have hE := H.out.below hbc
  go_wp2_with fail
  refine (addMembers_nil base bd O D B n cap k q bs es ak ao ck co first ks os_ hE).mono ?_
  rintro e wd ⟨rfl, qd, rfl⟩
  obtain ⟨w1, hw1⟩ : ∃ w1, w1 = ((wc.drewN qd).setCell ⟨O, 0, none⟩ (.slice ak first ck)).setCell ⟨O, 1, none⟩ (.slice ao first co) := ⟨_, rfl⟩
  obtain ⟨b8, hb8⟩ : ∃ b8, b8 = w.heap.size := ⟨_, rfl⟩
  rw [← hb8] at x0 x1 r0 r1 rz l2
  have c0' : w1.cell? ⟨O, 0, none⟩ = some (.slice ak first ck) := by
    rw [hw1, set_other (.inr (by omega))]
    exact set_same hE.c0
  have c1' : w1.cell? ⟨O, 1, none⟩ = some (.slice ao first co) := by
    rw [hw1]
    refine set_same (u := .slice ao first co) ?_
    rw [set_other (.inr (by omega))]
    exact hE.c1
  have kk : ∀ b o, b ≠ O → w1.cell? ⟨b, o, none⟩ = wc.cell? ⟨b, o, none⟩ := by
    intro b o hb
    rw [hw1, set_other (.inl (by omega)), set_other (.inl (by omega))]
    rfl
  have KHO : Hid (∀ o, 2 ≤ o → w1.cell? ⟨O, o, none⟩ = w.cell? ⟨O, o, none⟩) := by
    intro o ho
    rw [hw1, set_other (.inr (by omega)), set_other (.inr (by omega))]
    exact hbc.cell (p := ⟨O, o, none⟩) hOl
  have KHB : Hid (∀ g, g < w.heap.size → g ≠ O → w1.heap[g]? = w.heap[g]?) := by
    intro g hg hne
    rw [hw1, Below.heap_setCell _ _ _ g hne, Below.heap_setCell _ _ _ g hne]
    exact hbc.block g hg
  have KHF : Hid (∀ o, w1.frozen? ⟨O, o, none⟩ = false) := by
    intro o
    rw [hw1, World.frozen?_setCell, World.frozen?_setCell]
    exact hE.fz o
  have y0 := (kk (b8 + 1) 0 (by omega)).trans x0
  have y1 := (kk (b8 + 1) 1 (by omega)).trans x1
  have e0 := (kk b8 0 (by omega)).trans r0
  have e1 := (kk b8 1 (by omega)).trans r1
  have g0 : w1.frozen? ⟨b8, 0, none⟩ = false := by rw [hw1, World.frozen?_setCell, World.frozen?_setCell]; exact rz 0
  have g1 : w1.frozen? ⟨b8, 1, none⟩ = false := by rw [hw1, World.frozen?_setCell, World.frozen?_setCell]; exact rz 1
  have HLW : Hid (Below base w w1) := by
    show Below base w w1
    rw [hw1]
    refine Below.setCell (p := ⟨O, 1, none⟩) (Below.setCell (p := ⟨O, 0, none⟩) ?_ hbO _) hbO _
    exact (hbc.mono (by omega)).trans ⟨rfl, rfl, rfl, Nat.le_refl _, fun _ _ => rfl⟩
  rw [← hw1, ← hb8]
  have hb8b : base ≤ b8 := by omega
  have n8 : O ≠ b8 := by omega
  have hb8w : w.heap.size ≤ b8 := by omega
  have hOw : O < w1.heap.size := World.block_lt_of_cell? _ _ c0'
  clear hw1 hb8 x0 x1 r0 r1 rz l2 hE kk c0 c2
  have ha : bits .and .u64 0 141289400074368 = 0 := and_run 0 (by omega)
  have RK := hide H.out.rk
  have RO := hide H.out.ro
  have s2 : (0 : Int) ≤ (first : Int) := by omega
  have HNK := hide H.out.nk
  have HNO := hide H.out.no
  have HNKO := hide H.out.nko
  have HC2 := hide H.out.c2
  clear H
  rcases hak with ⟨rfl, rfl⟩ | ⟨gk, rfl⟩
  · have hf0 : first = 0 := by
      rcases RK.out.2 with ⟨h1, _⟩ | ⟨_, _, _, h1, _⟩
      · injection h1 with _ e _
      · cases h1
    subst hf0
    rcases hao with ⟨rfl, rfl⟩ | ⟨go, rfl⟩
    · go_upto_region 6 with (fail)
      go_quiet (fail)
      have FA : Hid (((w1.drewN nq).setCell ⟨b8, 0, none⟩ (.int .i32 0)).cell? ⟨b8, 0, none⟩ = some (.int .i32 0)) := set_same (w := w1.drewN nq) e0
      have FB : Hid ((((w1.drewN nq).setCell ⟨b8, 0, none⟩ (.int .i32 0)).setCell ⟨b8, 1, none⟩ (.int .i32 0)).cell? ⟨b8, 1, none⟩ = some (.int .i32 0)) := set_same ((set_other (w := w1.drewN nq) (.inr (by omega))).trans e1)
      go_wp2_with fail
      refine (Su.slices_Sort_nil _ _ _).mono ?_
      rintro e w3 ⟨rfl, hw3⟩
      have hw3 := hw3.symm
      subst hw3
      go_wp2
      go_loopw [13, 20, 21, 22] (fun v13 v20 _ _ wr => v20 = .int .i64 0 ∧ v13 = .nilIface ∧ wr = w1.drewN nq) (fun _ _ _ _ _ => 0)
      case atStart => exact ⟨rfl, rfl, rfl⟩
      case round =>
        obtain ⟨rfl, rfl, rfl⟩ := hrel
        go_wp2
        refine bodyPost_ret (v := .tuple #[.agg #[.int .i32 0, .int .i32 0], .nilIface]) (by simp [results, Tryz.results21, go_sem, FA.out, FB.out]) rfl ?_
        have k0 : ∀ o, (((w1.drewN nq).setCell ⟨b8, 0, none⟩ (.int .i32 0)).setCell ⟨b8, 1, none⟩ (.int .i32 0)).cell? ⟨O, o, none⟩ = w1.cell? ⟨O, o, none⟩ := fun o => by
          rw [set_other (.inl (by omega)), set_other (.inl (by omega))]
          rfl
        have kh : ∀ g, g < w.heap.size → g ≠ O → (((w1.drewN nq).setCell ⟨b8, 0, none⟩ (.int .i32 0)).setCell ⟨b8, 1, none⟩ (.int .i32 0)).heap[g]? = w.heap[g]? := fun g hg hne => by
          rw [Below.heap_setCell _ _ _ g (by show g ≠ b8; omega), Below.heap_setCell _ _ _ g (by show g ≠ b8; omega)]
          exact KHB.out g hg hne
        have hlw2 : Below base w (w1.drewN nq) := ⟨HLW.out.os, HLW.out.tape, HLW.out.output, HLW.out.size, HLW.out.block⟩
        refine ⟨Below.setCell (p := ⟨b8, 1, none⟩) (Below.setCell (p := ⟨b8, 0, none⟩) hlw2 hb8b _) hb8b _, .inl ⟨rfl, [], _, _, List.Pairwise.nil, List.Perm.refl _, ⟨hbO, (k0 0).trans c0', (k0 1).trans c1', (k0 2).trans ((KHO.out 2 (by omega)).trans HC2.out), fun o => ?_, ?_, ?_, HNK.out, HNO.out, HNKO.out⟩, fun o ho => (k0 o).trans (KHO.out o (by omega))⟩⟩
        · rw [World.frozen?_setCell, World.frozen?_setCell]
          exact KHF.out o
        · have hr := ownsRow_heap RK.out (fun g e => kh g (ownsRow_lt RK.out e) (fun e' => HNK.out (by rw [e, e'])))
          simpa [keysOf] using hr
        · have hr := ownsRow_heap RO.out (fun g e => kh g (ownsRow_lt RO.out e) (fun e' => HNO.out (by rw [e, e'])))
          simpa [ordV] using hr
    · go_upto_region 6 with (fail)
      go_quiet (fail)
      have FA : Hid (((w1.drewN nq).setCell ⟨b8, 0, none⟩ (.int .i32 0)).cell? ⟨b8, 0, none⟩ = some (.int .i32 0)) := set_same (w := w1.drewN nq) e0
      have FB : Hid ((((w1.drewN nq).setCell ⟨b8, 0, none⟩ (.int .i32 0)).setCell ⟨b8, 1, none⟩ (.int .i32 0)).cell? ⟨b8, 1, none⟩ = some (.int .i32 0)) := set_same ((set_other (w := w1.drewN nq) (.inr (by omega))).trans e1)
      go_wp2_with fail
      refine (Su.slices_Sort_nil _ _ _).mono ?_
      rintro e w3 ⟨rfl, hw3⟩
      have hw3 := hw3.symm
      subst hw3
      go_wp2
      go_loopw [13, 20, 21, 22] (fun v13 v20 _ _ wr => v20 = .int .i64 0 ∧ v13 = .nilIface ∧ wr = w1.drewN nq) (fun _ _ _ _ _ => 0)
      case atStart => exact ⟨rfl, rfl, rfl⟩
      case round =>
        obtain ⟨rfl, rfl, rfl⟩ := hrel
        go_wp2
        refine bodyPost_ret (v := .tuple #[.agg #[.int .i32 0, .int .i32 0], .nilIface]) (by simp [results, Tryz.results21, go_sem, FA.out, FB.out]) rfl ?_
        have k0 : ∀ o, (((w1.drewN nq).setCell ⟨b8, 0, none⟩ (.int .i32 0)).setCell ⟨b8, 1, none⟩ (.int .i32 0)).cell? ⟨O, o, none⟩ = w1.cell? ⟨O, o, none⟩ := fun o => by
          rw [set_other (.inl (by omega)), set_other (.inl (by omega))]
          rfl
        have kh : ∀ g, g < w.heap.size → g ≠ O → (((w1.drewN nq).setCell ⟨b8, 0, none⟩ (.int .i32 0)).setCell ⟨b8, 1, none⟩ (.int .i32 0)).heap[g]? = w.heap[g]? := fun g hg hne => by
          rw [Below.heap_setCell _ _ _ g (by show g ≠ b8; omega), Below.heap_setCell _ _ _ g (by show g ≠ b8; omega)]
          exact KHB.out g hg hne
        have hlw2 : Below base w (w1.drewN nq) := ⟨HLW.out.os, HLW.out.tape, HLW.out.output, HLW.out.size, HLW.out.block⟩
        refine ⟨Below.setCell (p := ⟨b8, 1, none⟩) (Below.setCell (p := ⟨b8, 0, none⟩) hlw2 hb8b _) hb8b _, .inl ⟨rfl, [], _, _, List.Pairwise.nil, List.Perm.refl _, ⟨hbO, (k0 0).trans c0', (k0 1).trans c1', (k0 2).trans ((KHO.out 2 (by omega)).trans HC2.out), fun o => ?_, ?_, ?_, HNK.out, HNO.out, HNKO.out⟩, fun o ho => (k0 o).trans (KHO.out o (by omega))⟩⟩
        · rw [World.frozen?_setCell, World.frozen?_setCell]
          exact KHF.out o
        · have hr := ownsRow_heap RK.out (fun g e => kh g (ownsRow_lt RK.out e) (fun e' => HNK.out (by rw [e, e'])))
          simpa [keysOf] using hr
        · have hr := ownsRow_heap RO.out (fun g e => kh g (ownsRow_lt RO.out e) (fun e' => HNO.out (by rw [e, e'])))
          simpa [ordV] using hr
  · rcases hao with ⟨rfl, rfl⟩ | ⟨go, rfl⟩
    · have hf0 : first = 0 := by
        rcases RO.out.2 with ⟨h1, _⟩ | ⟨_, _, _, h1, _⟩
        · injection h1 with _ e _
        · cases h1
      subst hf0
      go_upto_region 6 with (fail)
      go_quiet (fail)
      have FA : Hid (((w1.drewN nq).setCell ⟨b8, 0, none⟩ (.int .i32 0)).cell? ⟨b8, 0, none⟩ = some (.int .i32 0)) := set_same (w := w1.drewN nq) e0
      have FB : Hid ((((w1.drewN nq).setCell ⟨b8, 0, none⟩ (.int .i32 0)).setCell ⟨b8, 1, none⟩ (.int .i32 0)).cell? ⟨b8, 1, none⟩ = some (.int .i32 0)) := set_same ((set_other (w := w1.drewN nq) (.inr (by omega))).trans e1)
      go_wp2_with fail
      refine (Su.slices_Sort_nil _ _ _).mono ?_
      rintro e w3 ⟨rfl, hw3⟩
      have hw3 := hw3.symm
      subst hw3
      go_wp2
      go_loopw [13, 20, 21, 22] (fun v13 v20 _ _ wr => v20 = .int .i64 0 ∧ v13 = .nilIface ∧ wr = w1.drewN nq) (fun _ _ _ _ _ => 0)
      case atStart => exact ⟨rfl, rfl, rfl⟩
      case round =>
        obtain ⟨rfl, rfl, rfl⟩ := hrel
        go_wp2
        refine bodyPost_ret (v := .tuple #[.agg #[.int .i32 0, .int .i32 0], .nilIface]) (by simp [results, Tryz.results21, go_sem, FA.out, FB.out]) rfl ?_
        have k0 : ∀ o, (((w1.drewN nq).setCell ⟨b8, 0, none⟩ (.int .i32 0)).setCell ⟨b8, 1, none⟩ (.int .i32 0)).cell? ⟨O, o, none⟩ = w1.cell? ⟨O, o, none⟩ := fun o => by
          rw [set_other (.inl (by omega)), set_other (.inl (by omega))]
          rfl
        have kh : ∀ g, g < w.heap.size → g ≠ O → (((w1.drewN nq).setCell ⟨b8, 0, none⟩ (.int .i32 0)).setCell ⟨b8, 1, none⟩ (.int .i32 0)).heap[g]? = w.heap[g]? := fun g hg hne => by
          rw [Below.heap_setCell _ _ _ g (by show g ≠ b8; omega), Below.heap_setCell _ _ _ g (by show g ≠ b8; omega)]
          exact KHB.out g hg hne
        have hlw2 : Below base w (w1.drewN nq) := ⟨HLW.out.os, HLW.out.tape, HLW.out.output, HLW.out.size, HLW.out.block⟩
        refine ⟨Below.setCell (p := ⟨b8, 1, none⟩) (Below.setCell (p := ⟨b8, 0, none⟩) hlw2 hb8b _) hb8b _, .inl ⟨rfl, [], _, _, List.Pairwise.nil, List.Perm.refl _, ⟨hbO, (k0 0).trans c0', (k0 1).trans c1', (k0 2).trans ((KHO.out 2 (by omega)).trans HC2.out), fun o => ?_, ?_, ?_, HNK.out, HNO.out, HNKO.out⟩, fun o ho => (k0 o).trans (KHO.out o (by omega))⟩⟩
        · rw [World.frozen?_setCell, World.frozen?_setCell]
          exact KHF.out o
        · have hr := ownsRow_heap RK.out (fun g e => kh g (ownsRow_lt RK.out e) (fun e' => HNK.out (by rw [e, e'])))
          simpa [keysOf] using hr
        · have hr := ownsRow_heap RO.out (fun g e => kh g (ownsRow_lt RO.out e) (fun e' => HNO.out (by rw [e, e'])))
          simpa [ordV] using hr
    · by_cases hc1 : ck = first
      · subst hc1
        by_cases hc2 : co = ck
        · subst hc2
          go_upto_region 6 with (fail)
          go_quiet (fail)
          have FA : Hid (((w1.drewN nq).setCell ⟨b8, 0, none⟩ (.int .i32 (co : Int))).cell? ⟨b8, 0, none⟩ = some (.int .i32 (co : Int))) := set_same (w := w1.drewN nq) e0
          have FB : Hid ((((w1.drewN nq).setCell ⟨b8, 0, none⟩ (.int .i32 (co : Int))).setCell ⟨b8, 1, none⟩ (.int .i32 0)).cell? ⟨b8, 1, none⟩ = some (.int .i32 0)) := set_same ((set_other (w := w1.drewN nq) (.inr (by omega))).trans e1)
          go_wp2_with fail
          refine (Su.slices_Sort_nil _ _ _).mono ?_
          rintro e w3 ⟨rfl, hw3⟩
          have hw3 := hw3.symm
          subst hw3
          go_wp2
          go_loopw [13, 20, 21, 22] (fun v13 v20 _ _ wr => v20 = .int .i64 0 ∧ v13 = .nilIface ∧ wr = w1.drewN nq) (fun _ _ _ _ _ => 0)
          case atStart => exact ⟨rfl, rfl, rfl⟩
          case round =>
            obtain ⟨rfl, rfl, rfl⟩ := hrel
            go_wp2
            refine bodyPost_ret (v := .tuple #[.agg #[.int .i32 (co : Int), .int .i32 0], .nilIface]) (by simp [results, Tryz.results21, go_sem, FA.out, FB.out]) rfl ?_
            have k0 : ∀ o, (((w1.drewN nq).setCell ⟨b8, 0, none⟩ (.int .i32 (co : Int))).setCell ⟨b8, 1, none⟩ (.int .i32 0)).cell? ⟨O, o, none⟩ = w1.cell? ⟨O, o, none⟩ := fun o => by
              rw [set_other (.inl (by omega)), set_other (.inl (by omega))]
              rfl
            have kh : ∀ g, g < w.heap.size → g ≠ O → (((w1.drewN nq).setCell ⟨b8, 0, none⟩ (.int .i32 (co : Int))).setCell ⟨b8, 1, none⟩ (.int .i32 0)).heap[g]? = w.heap[g]? := fun g hg hne => by
              rw [Below.heap_setCell _ _ _ g (by show g ≠ b8; omega), Below.heap_setCell _ _ _ g (by show g ≠ b8; omega)]
              exact KHB.out g hg hne
            have hlw2 : Below base w (w1.drewN nq) := ⟨HLW.out.os, HLW.out.tape, HLW.out.output, HLW.out.size, HLW.out.block⟩
            refine ⟨Below.setCell (p := ⟨b8, 1, none⟩) (Below.setCell (p := ⟨b8, 0, none⟩) hlw2 hb8b _) hb8b _, .inl ⟨rfl, [], _, _, List.Pairwise.nil, List.Perm.refl _, ⟨hbO, (k0 0).trans c0', (k0 1).trans c1', (k0 2).trans ((KHO.out 2 (by omega)).trans HC2.out), fun o => ?_, ?_, ?_, HNK.out, HNO.out, HNKO.out⟩, fun o ho => (k0 o).trans (KHO.out o (by omega))⟩⟩
            · rw [World.frozen?_setCell, World.frozen?_setCell]
              exact KHF.out o
            · have hr := ownsRow_heap RK.out (fun g e => kh g (ownsRow_lt RK.out e) (fun e' => HNK.out (by rw [e, e'])))
              simpa [keysOf] using hr
            · have hr := ownsRow_heap RO.out (fun g e => kh g (ownsRow_lt RO.out e) (fun e' => HNO.out (by rw [e, e'])))
              simpa [ordV] using hr
        · go_upto_region 6 with (fail)
          go_quiet (fail)
          have FA : Hid (((w1.drewN nq).setCell ⟨b8, 0, none⟩ (.int .i32 (ck : Int))).cell? ⟨b8, 0, none⟩ = some (.int .i32 (ck : Int))) := set_same (w := w1.drewN nq) e0
          have FB : Hid ((((w1.drewN nq).setCell ⟨b8, 0, none⟩ (.int .i32 (ck : Int))).setCell ⟨b8, 1, none⟩ (.int .i32 0)).cell? ⟨b8, 1, none⟩ = some (.int .i32 0)) := set_same ((set_other (w := w1.drewN nq) (.inr (by omega))).trans e1)
          go_wp2_with fail
          refine (Su.slices_Sort_nil _ _ _).mono ?_
          rintro e w3 ⟨rfl, hw3⟩
          have hw3 := hw3.symm
          subst hw3
          go_wp2
          go_loopw [13, 20, 21, 22] (fun v13 v20 _ _ wr => v20 = .int .i64 0 ∧ v13 = .nilIface ∧ wr = w1.drewN nq) (fun _ _ _ _ _ => 0)
          case atStart => exact ⟨rfl, rfl, rfl⟩
          case round =>
            obtain ⟨rfl, rfl, rfl⟩ := hrel
            go_wp2
            refine bodyPost_ret (v := .tuple #[.agg #[.int .i32 (ck : Int), .int .i32 0], .nilIface]) (by simp [results, Tryz.results21, go_sem, FA.out, FB.out]) rfl ?_
            have k0 : ∀ o, (((w1.drewN nq).setCell ⟨b8, 0, none⟩ (.int .i32 (ck : Int))).setCell ⟨b8, 1, none⟩ (.int .i32 0)).cell? ⟨O, o, none⟩ = w1.cell? ⟨O, o, none⟩ := fun o => by
              rw [set_other (.inl (by omega)), set_other (.inl (by omega))]
              rfl
            have kh : ∀ g, g < w.heap.size → g ≠ O → (((w1.drewN nq).setCell ⟨b8, 0, none⟩ (.int .i32 (ck : Int))).setCell ⟨b8, 1, none⟩ (.int .i32 0)).heap[g]? = w.heap[g]? := fun g hg hne => by
              rw [Below.heap_setCell _ _ _ g (by show g ≠ b8; omega), Below.heap_setCell _ _ _ g (by show g ≠ b8; omega)]
              exact KHB.out g hg hne
            have hlw2 : Below base w (w1.drewN nq) := ⟨HLW.out.os, HLW.out.tape, HLW.out.output, HLW.out.size, HLW.out.block⟩
            refine ⟨Below.setCell (p := ⟨b8, 1, none⟩) (Below.setCell (p := ⟨b8, 0, none⟩) hlw2 hb8b _) hb8b _, .inl ⟨rfl, [], _, _, List.Pairwise.nil, List.Perm.refl _, ⟨hbO, (k0 0).trans c0', (k0 1).trans c1', (k0 2).trans ((KHO.out 2 (by omega)).trans HC2.out), fun o => ?_, ?_, ?_, HNK.out, HNO.out, HNKO.out⟩, fun o ho => (k0 o).trans (KHO.out o (by omega))⟩⟩
            · rw [World.frozen?_setCell, World.frozen?_setCell]
              exact KHF.out o
            · have hr := ownsRow_heap RK.out (fun g e => kh g (ownsRow_lt RK.out e) (fun e' => HNK.out (by rw [e, e'])))
              simpa [keysOf] using hr
            · have hr := ownsRow_heap RO.out (fun g e => kh g (ownsRow_lt RO.out e) (fun e' => HNO.out (by rw [e, e'])))
              simpa [ordV] using hr
      · by_cases hc2 : co = first
        · subst hc2
          go_upto_region 6 with (fail)
          go_quiet (fail)
          have FA : Hid (((w1.drewN nq).setCell ⟨b8, 0, none⟩ (.int .i32 (co : Int))).cell? ⟨b8, 0, none⟩ = some (.int .i32 (co : Int))) := set_same (w := w1.drewN nq) e0
          have FB : Hid ((((w1.drewN nq).setCell ⟨b8, 0, none⟩ (.int .i32 (co : Int))).setCell ⟨b8, 1, none⟩ (.int .i32 0)).cell? ⟨b8, 1, none⟩ = some (.int .i32 0)) := set_same ((set_other (w := w1.drewN nq) (.inr (by omega))).trans e1)
          go_wp2_with fail
          refine (Su.slices_Sort_nil _ _ _).mono ?_
          rintro e w3 ⟨rfl, hw3⟩
          have hw3 := hw3.symm
          subst hw3
          go_wp2
          go_loopw [13, 20, 21, 22] (fun v13 v20 _ _ wr => v20 = .int .i64 0 ∧ v13 = .nilIface ∧ wr = w1.drewN nq) (fun _ _ _ _ _ => 0)
          case atStart => exact ⟨rfl, rfl, rfl⟩
          case round =>
            obtain ⟨rfl, rfl, rfl⟩ := hrel
            go_wp2
            refine bodyPost_ret (v := .tuple #[.agg #[.int .i32 (co : Int), .int .i32 0], .nilIface]) (by simp [results, Tryz.results21, go_sem, FA.out, FB.out]) rfl ?_
            have k0 : ∀ o, (((w1.drewN nq).setCell ⟨b8, 0, none⟩ (.int .i32 (co : Int))).setCell ⟨b8, 1, none⟩ (.int .i32 0)).cell? ⟨O, o, none⟩ = w1.cell? ⟨O, o, none⟩ := fun o => by
              rw [set_other (.inl (by omega)), set_other (.inl (by omega))]
              rfl
            have kh : ∀ g, g < w.heap.size → g ≠ O → (((w1.drewN nq).setCell ⟨b8, 0, none⟩ (.int .i32 (co : Int))).setCell ⟨b8, 1, none⟩ (.int .i32 0)).heap[g]? = w.heap[g]? := fun g hg hne => by
              rw [Below.heap_setCell _ _ _ g (by show g ≠ b8; omega), Below.heap_setCell _ _ _ g (by show g ≠ b8; omega)]
              exact KHB.out g hg hne
            have hlw2 : Below base w (w1.drewN nq) := ⟨HLW.out.os, HLW.out.tape, HLW.out.output, HLW.out.size, HLW.out.block⟩
            refine ⟨Below.setCell (p := ⟨b8, 1, none⟩) (Below.setCell (p := ⟨b8, 0, none⟩) hlw2 hb8b _) hb8b _, .inl ⟨rfl, [], _, _, List.Pairwise.nil, List.Perm.refl _, ⟨hbO, (k0 0).trans c0', (k0 1).trans c1', (k0 2).trans ((KHO.out 2 (by omega)).trans HC2.out), fun o => ?_, ?_, ?_, HNK.out, HNO.out, HNKO.out⟩, fun o ho => (k0 o).trans (KHO.out o (by omega))⟩⟩
            · rw [World.frozen?_setCell, World.frozen?_setCell]
              exact KHF.out o
            · have hr := ownsRow_heap RK.out (fun g e => kh g (ownsRow_lt RK.out e) (fun e' => HNK.out (by rw [e, e'])))
              simpa [keysOf] using hr
            · have hr := ownsRow_heap RO.out (fun g e => kh g (ownsRow_lt RO.out e) (fun e' => HNO.out (by rw [e, e'])))
              simpa [ordV] using hr
        · go_upto_region 6 with (fail)
          go_quiet (fail)
          have FA : Hid (((w1.drewN nq).setCell ⟨b8, 0, none⟩ (.int .i32 (first : Int))).cell? ⟨b8, 0, none⟩ = some (.int .i32 (first : Int))) := set_same (w := w1.drewN nq) e0
          have FB : Hid ((((w1.drewN nq).setCell ⟨b8, 0, none⟩ (.int .i32 (first : Int))).setCell ⟨b8, 1, none⟩ (.int .i32 0)).cell? ⟨b8, 1, none⟩ = some (.int .i32 0)) := set_same ((set_other (w := w1.drewN nq) (.inr (by omega))).trans e1)
          go_wp2_with fail
          refine (Su.slices_Sort_nil _ _ _).mono ?_
          rintro e w3 ⟨rfl, hw3⟩
          have hw3 := hw3.symm
          subst hw3
          go_wp2
          go_loopw [13, 20, 21, 22] (fun v13 v20 _ _ wr => v20 = .int .i64 0 ∧ v13 = .nilIface ∧ wr = w1.drewN nq) (fun _ _ _ _ _ => 0)
          case atStart => exact ⟨rfl, rfl, rfl⟩
          case round =>
            obtain ⟨rfl, rfl, rfl⟩ := hrel
            go_wp2
            refine bodyPost_ret (v := .tuple #[.agg #[.int .i32 (first : Int), .int .i32 0], .nilIface]) (by simp [results, Tryz.results21, go_sem, FA.out, FB.out]) rfl ?_
            have k0 : ∀ o, (((w1.drewN nq).setCell ⟨b8, 0, none⟩ (.int .i32 (first : Int))).setCell ⟨b8, 1, none⟩ (.int .i32 0)).cell? ⟨O, o, none⟩ = w1.cell? ⟨O, o, none⟩ := fun o => by
              rw [set_other (.inl (by omega)), set_other (.inl (by omega))]
              rfl
            have kh : ∀ g, g < w.heap.size → g ≠ O → (((w1.drewN nq).setCell ⟨b8, 0, none⟩ (.int .i32 (first : Int))).setCell ⟨b8, 1, none⟩ (.int .i32 0)).heap[g]? = w.heap[g]? := fun g hg hne => by
              rw [Below.heap_setCell _ _ _ g (by show g ≠ b8; omega), Below.heap_setCell _ _ _ g (by show g ≠ b8; omega)]
              exact KHB.out g hg hne
            have hlw2 : Below base w (w1.drewN nq) := ⟨HLW.out.os, HLW.out.tape, HLW.out.output, HLW.out.size, HLW.out.block⟩
            refine ⟨Below.setCell (p := ⟨b8, 1, none⟩) (Below.setCell (p := ⟨b8, 0, none⟩) hlw2 hb8b _) hb8b _, .inl ⟨rfl, [], _, _, List.Pairwise.nil, List.Perm.refl _, ⟨hbO, (k0 0).trans c0', (k0 1).trans c1', (k0 2).trans ((KHO.out 2 (by omega)).trans HC2.out), fun o => ?_, ?_, ?_, HNK.out, HNO.out, HNKO.out⟩, fun o ho => (k0 o).trans (KHO.out o (by omega))⟩⟩
            · rw [World.frozen?_setCell, World.frozen?_setCell]
              exact KHF.out o
            · have hr := ownsRow_heap RK.out (fun g e => kh g (ownsRow_lt RK.out e) (fun e' => HNK.out (by rw [e, e'])))
              simpa [keysOf] using hr
            · have hr := ownsRow_heap RO.out (fun g e => kh g (ownsRow_lt RO.out e) (fun e' => HNO.out (by rw [e, e'])))
              simpa [ordV] using hr

end Go.Proofs.Qxb6616638aGreatFmt.Two
