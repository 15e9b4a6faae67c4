/-
  THE WALK of add: leads that are not ASCII.
-/
import Derived.Test.Qxb6616638aGreatFmtBdd4
namespace Go.Proofs.Qxb6616638aGreatFmt.Two
open Go.Proofs.Qxb6616638aGreatFmt
open Go.RowKit
open Go.Extern.Stop Go.Stop Go.Extern
open Plain
set_option linter.unusedVariables false
set_option maxRecDepth 100000

variable {w : World}

set_option maxHeartbeats 16000000 in
theorem add_C (F : Interp) (base bd O D B n cap k first q : Nat) (bs : Nat → Nat) (es : List Ent) (js : List Nat) (kv ov : Value) (ks os_ : List Value) (lsE : Nat → List Nat) (hF : F.answers w.tape)
    (AM : ∀ w', AddEnv w' base bd O D B n cap k first q bs es js kv ov ks os_ → Calls Tryz.prog 31 #[.pointer (some ⟨O, 0, none⟩), .slice (some ⟨B, 0, none⟩) n cap, .pointer (some ⟨D, 0, none⟩), .int .i64 k] w' (AddMGives w' base O first kv ov ks os_ bs es js))
    (h : AddEnv w base bd O D B n cap k first q bs es js kv ov ks os_) (ho : Objt bs n es lsE k js) (hj0 : 0 < js.length) (hbw : orL bs es js &&& 141289400074368 ≠ 0) :
    Calls Tryz.prog 21 #[.pointer (some ⟨O, 0, none⟩), .slice (some ⟨B, 0, none⟩) n cap, .pointer (some ⟨D, 0, none⟩), .int .i64 k] w (AddGives w base O first (fun i => uOf bs es lsE (js.getD i 0)) bs es js ks os_ (KeepO O)) := by
  have hOl := h.lt
  have hOn : O ≠ w.heap.size := by omega
  have hOn2 : O ≠ w.heap.size + 1 := by omega
  have hbO := h.hbase
  obtain ⟨ak, lk, ck, ek⟩ := h.rk.isSlice
  have elk : lk = first := by
    rcases h.rk.2 with ⟨h, h'⟩ | ⟨_, _, _, h, _⟩
    · rw [h] at ek; injection ek with _ e _; omega
    · rw [h] at ek; injection ek with _ e _; omega
  have c0 : w.cell? ⟨O, 0, none⟩ = some (.slice ak first ck) := by rw [h.c0, ek, elk]
  have c2 := h.c2
  have hf1 := h.hfirst
  have hks : ks.length = first * 4 := h.rk.1
  have hos : os_.length = first := by simpa using h.ro.1
  have hjl : js.length ≤ 8191 := by
    have h1 := chain_len h.hch
    have h2 := h.hbu.len
    have h3 := h.hn
    have h4 := h.hql
    omega
  have hnm : ∀ i, i < js.length → fr es (js.getD i 0) ≤ to es (js.getD i 0) ∧ to es (js.getD i 0) < n := by
    intro i hi
    obtain ⟨h1, h2, _⟩ := ho.str i hi
    unfold fr to
    omega
  have H := hide h
  have HAM := hide AM
  have HO := hide ho
  have HKS := hide hks
  have HOS := hide hos
  have HNM := hide hnm
  have hn := h.hn
  have hcap := h.hcap
  have hw1 : IntKind.i32.wrap (first : Int) = (first : Int) := by rw [IntKind.wrap_i32]; omega
  clear h AM ho ek elk hks hos hnm
  go_enter Tryz.func21, Tryz.ntmps21
  go_upto_region 1 with (fail)
  go_region
  obtain ⟨wc, hwc⟩ : ∃ wc, wc = ((w.alloc (.cells #[.int .i32 0, .int .i32 0] 69)).alloc (.cells #[.int .i32 (first : Int), .int .i32 0] 69)).drew := ⟨_, rfl⟩
  obtain ⟨x0, x1, r0, r1, rz, l2, hbc⟩ := start_blocks w first hwc
  rw [← hwc]
  clear hwc
  obtain ⟨b10, hb10⟩ : ∃ b10, b10 = w.heap.size + 1 := ⟨_, rfl⟩
  rw [← hb10] at x0 x1 l2
  have l1 : w.heap.size < b10 := by omega
  rw [← hb10]
  have hsc := hbc.size
  clear hb10
  go_wp2_with fail
  refine (HAM.out wc (H.out.below hbc)).mono ?_
  rintro e wd ⟨kv', ov', W, hh, rfl, hh0, hbut, rfl, rk', ro', sk, so, hne⟩
  obtain ⟨gk, ck', rfl⟩ := own_slice rk' (by omega)
  obtain ⟨go, co', rfl⟩ := own_slice ro' (by omega)
  have hgg : gk ≠ go := by
    rcases hne with hne | hne
    · cases hne
    · intro e
      exact hne (by rw [own_some, own_some, e])
  have hA := AM1.of H.out x0 x1 l1 l2 r0 r1 rz hbc hbut rk' ro' sk so hgg
  have hck : ck' ≠ first := by
    obtain ⟨_, _, _, h1, _⟩ := row_obj rk'
    omega
  have hco : co' ≠ first := by
    obtain ⟨_, _, _, h1, _⟩ := row_obj ro'
    omega
  have hck2 : first ≤ ck' := by
    obtain ⟨_, _, _, h1, _⟩ := row_obj rk'
    omega
  have hco2 : first + js.length ≤ co' := by
    obtain ⟨_, _, _, h1, _⟩ := row_obj ro'
    omega
  obtain ⟨w1, hw1e⟩ : ∃ w1, w1 = ((W.setCell ⟨O, 0, none⟩ (.slice (some ⟨gk, 0, none⟩) (first + js.length) ck')).setCell ⟨O, 1, none⟩ (.slice (some ⟨go, 0, none⟩) (first + js.length) co')) := ⟨_, rfl⟩
  rw [← hw1e] at hA
  rw [← hw1e]
  obtain ⟨b8, hb8⟩ : ∃ b8, b8 = w.heap.size := ⟨_, rfl⟩
  rw [← hb8] at hA
  rw [← hb8]
  have HA0 := hide hA
  clear hw1e hb8 hbut rk' ro' sk so hne hgg x0 x1 r0 r1 rz hbc l1 l2 hsc HAM c0 c2 hOn hOn2
  have o0 := hA.o0
  have o1 := hA.o1
  have x0 := hA.x0
  clear hA
  have s1 : (first : Int) ≤ ((first + js.length : Nat) : Int) := by omega
  have s2 : (0 : Int) ≤ (first : Int) := by omega
  have hor : orL bs es js < 281474976710656 := orL_lt bs es js 0 (by omega) (fun j hj => orL_lt' (fun i hi => H.out.hx.lt i hi) H.out.hch j hj)
  have hand := and_run (orL bs es js) (by omega)
  obtain ⟨xx, hxx⟩ : ∃ xx, xx = orL bs es js &&& 141289400074368 := ⟨_, rfl⟩
  rw [← hxx] at hand
  have HXX : Hid (xx = orL bs es js &&& 141289400074368) := hxx
  have hx0 : xx ≠ 0 := by rw [hxx]; exact hbw
  clear hbw
  clear hxx hor
  generalize orL bs es js = oo at hand ⊢
  go_upto_region 6 with (fail)
  go_quiet (fail)
  have HA : Hid (AM1 w (w1.drewN nq) base O B n cap first gk go ck' co' b8 b10 bs es js ks os_ kv ov) := HA0.out.drewN nq
  obtain ⟨w2, hw2⟩ : ∃ w2, w2 = w1.drewN nq := ⟨_, rfl⟩
  rw [← hw2] at HA
  rw [← hw2]
  clear hw2 o0 o1 x0 HA0
  have HST : Hid (OrdSt w2 w2 go first js.length (fun i => ldE bs es (js.getD i 0) * 65536 + i)) := HA.out.start HOS.out
  have hgl : go < w2.heap.size := HA.out.lt.2.2.2.1
  have hBg : B ≠ go := by
    have h1 := HA.out.ge
    omega
  have hkg : gk ≠ go := HA.out.ne.1
  have HFR : Hid (∀ o, o < first + js.length → w2.frozen? ⟨go, o, none⟩ = false) := HA.out.free
  have HKE : Hid (KeyEnv w2 B n cap gk first bs es js) := HA.out.env HKS.out HNM.out hn hcap (by omega)
  have HF2 : Hid (F.answers w2.tape) := by
    show F.answers w2.tape
    rw [HA.out.tape]
    exact hF
  have hjb : ((js.length : Int) ≤ 65536) := by omega
  have hb0 : ((xx : Int) == 0) = false := by simp; omega
  have hb1 : ¬ (xx : Int) = 0 := by omega
  go_wp2_with fail
  go_loopw [23, 197] (fun _ v197 wr => ∃ i : Nat, v197 = .int .i64 (i : Int) ∧ i ≤ js.length ∧ OrdSt w2 wr go first js.length (fun j => if j < i then j else ldE bs es (js.getD j 0) * 65536 + j)) (fun _ v197 _ => js.length - (intOf v197).toNat)
  case atStart => exact ⟨0, rfl, Nat.zero_le _, HST.out.congr (fun j hj => by simp)⟩
  case round =>
    rename World => wr
    obtain ⟨i, rfl, hi, hst⟩ := hrel
    by_cases hil : i < js.length
    · have d1 : (i : Int) < (js.length : Int) := by omega
      have d0 : (0 : Int) ≤ (i : Int) := by omega
      have d2 := hst.cell i hil
      have d3 := (hst.free (first + i)).trans (HFR.out (first + i) (by omega))
      have d4 : IntKind.u64.wrap (i : Int) = (i : Int) := by rw [IntKind.wrap_u64]; omega
      have HS := hide hst
      clear hst
      go_wp2
      go_roundw
      case rel =>
        refine ⟨i + 1, by go_num, by omega, (HS.out.set hil i).congr (fun j hj => ?_)⟩
        show (if j = i then i else if j < i then j else _) = if j < i + 1 then j else _
        by_cases e1 : j = i
        · subst e1; rw [if_pos rfl, if_pos (by omega)]
        · rw [if_neg e1]
          by_cases e2 : j < i
          · rw [if_pos e2, if_pos (by omega)]
          · rw [if_neg e2, if_neg (by omega)]
      case measure =>
        show js.length - ((i : Int) + 1).toNat < js.length - ((i : Int)).toNat
        omega
    · have ei : i = js.length := by omega
      have d1 : decide ((i : Int) < (js.length : Int)) = false := by simp; omega
      have HS : Hid (OrdSt w2 wr go first js.length (fun j => j)) := hst.congr (fun j hj => by rw [if_pos (by omega)])
      clear hst
      have hsr := HS.out.but.size
      go_wp2_with fail
      refine (sortNames_len (lsE := lsE) (k := k) F go first _ _ js.length (List.range js.length) (by simp) (by rw [HS.out.but.tape]; exact HF2.out) (HKE.out.but HS.out.but hkg hBg) HO.out (fun i hi => List.mem_range.1 hi) hj0 (by omega) hkg hBg (fun i hi => ⟨?_, ?_⟩) (by omega)).mono ?_
      · rw [HS.out.cell i hi]
        simp [List.getD_eq_getElem?_getD, hi]
      · exact (HS.out.free _).trans (HFR.out _ (by omega))
      rintro e W5 ⟨is', hp, ht, hres⟩
      have hpl : is'.length = js.length := by rw [hp.length_eq]; simp
      have hOS := HS.out.turn (n := 0) (m := js.length) (is := is') (by simpa using ht) (Nat.zero_le _) (Nat.le_refl _)
      have hmap : (List.range js.length).map (paste 0 js.length is' (fun j => j)) = is' := by
        rw [range_paste (Nat.zero_le _) (by omega)]
        simp
      rcases hres with ⟨rfl, hstr⟩ | ⟨⟨aa, rfl⟩, i', hi', hz⟩
      · have HSTR : Hid (StrictP (fun i => uOf bs es lsE (js.getD i 0)) ((List.range js.length).map (paste 0 js.length is' (fun j => j)))) := by show StrictP _ _; rw [hmap]; exact hstr
        have HPRM : Hid (((List.range js.length).map (paste 0 js.length is' (fun j => j))).Perm (List.range js.length)) := by show List.Perm _ _; rw [hmap]; exact hp
        clear hmap hstr hp ht hpl
        have hTL := HA.out.tail hOS
        have y0 := hTL.x0
        have y1 := hTL.x1
        have e0 := hTL.r0
        have e1 := hTL.r1
        have g0 := hTL.z0
        have g1 := hTL.z1
        have HOS5 := hide hOS
        have hb8w : b8 < W5.heap.size := World.block_lt_of_cell? _ _ e0
        have fA := set_same (v := .int .i32 (first : Int)) e0
        have fB : ((W5.setCell ⟨b8, 0, none⟩ (.int .i32 (first : Int))).setCell ⟨b8, 1, none⟩ (.int .i32 0)).cell? ⟨b8, 1, none⟩ = some (.int .i32 0) := set_same ((set_other (.inr (by omega))).trans e1)
        have FA := hide fA
        have FB := hide fB
        clear hTL hOS fA fB
        go_wp2
        refine bodyPost_ret (v := .tuple #[.agg #[.int .i32 (first : Int), .int .i32 0], .nilIface]) (by simp [results, Tryz.results21, go_sem, FA.out, FB.out]) rfl ?_
        exact HA.out.ok8 HOS5.out HOS.out HSTR.out HPRM.out _ _
      · have HAL : Hid (∃ x y, x < js.length ∧ y < js.length ∧ x ≠ y ∧ cmpU (uOf bs es lsE (js.getD x 0)) (uOf bs es lsE (js.getD y 0)) = 0) := alike_of hp hi' hz
        clear hmap hz hp ht hpl hi'
        have hTL := HA.out.tail hOS
        have e0 := hTL.o0
        have e1 := hTL.o1
        have e2 := hTL.o2
        have y0 := hTL.x0
        have y1 := hTL.x1
        have hOw : O < W5.heap.size := World.block_lt_of_cell? _ _ e0
        have g0 := hTL.fz 0
        have g1 := hTL.fz 1
        have g2 := hTL.fz 2
        have HTL := hide hTL
        have HOS5 := hide hOS
        clear hTL hOS
        go_wp2_with fail
        refine (drop_any O first (first + js.length) ck' (first + js.length) co' (some ⟨gk, 0, none⟩) (some ⟨go, 0, none⟩) hOw e0 e1 e2 g0 g1 g2 (by omega) (by omega) (by omega)).mono ?_
        rintro e w6 ⟨rfl, hd⟩
        have v0 : w6.cell? ⟨b8, 0, none⟩ = some (.int .i32 0) := (hd.but.cell (World.block_lt_of_cell? _ _ HTL.out.r0) (fun e => HA.out.ne.2.2.2.2.2.2.2.1 e.symm)).trans HTL.out.r0
        have v1 : w6.cell? ⟨b8, 1, none⟩ = some (.int .i32 0) := (hd.but.cell (World.block_lt_of_cell? _ _ HTL.out.r0) (fun e => HA.out.ne.2.2.2.2.2.2.2.1 e.symm)).trans HTL.out.r1
        have q0 : w6.frozen? ⟨b8, 0, none⟩ = false := (hd.but.frozen (World.block_lt_of_cell? _ _ HTL.out.r0) (fun e => HA.out.ne.2.2.2.2.2.2.2.1 e.symm)).trans HTL.out.z0
        have q1 : w6.frozen? ⟨b8, 1, none⟩ = false := (hd.but.frozen (World.block_lt_of_cell? _ _ HTL.out.r0) (fun e => HA.out.ne.2.2.2.2.2.2.2.1 e.symm)).trans HTL.out.z1
        have HD6 := hide hd
        have FA : Hid ((w6.setCell ⟨b8, 0, none⟩ (.int .i32 0)).cell? ⟨b8, 0, none⟩ = some (.int .i32 0)) := set_same v0
        have FB : Hid (((w6.setCell ⟨b8, 0, none⟩ (.int .i32 0)).setCell ⟨b8, 1, none⟩ (.int .i32 0)).cell? ⟨b8, 1, none⟩ = some (.int .i32 0)) := set_same ((set_other (.inr (by omega))).trans v1)
        clear hd e0 e1 e2 y0 y1
        go_wp2
        refine bodyPost_ret (v := .tuple #[.agg #[.int .i32 0, .int .i32 0], .iface 149 (.pointer (some aa))]) (by simp [results, Tryz.results21, go_sem, FA.out, FB.out]) rfl ?_
        exact HA.out.no HOS5.out HKS.out HOS.out HAL.out HD6.out _ _

end Go.Proofs.Qxb6616638aGreatFmt.Two
