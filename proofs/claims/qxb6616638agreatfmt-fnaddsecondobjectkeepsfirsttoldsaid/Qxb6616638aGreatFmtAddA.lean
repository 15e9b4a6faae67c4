/-
  THE WALK of add: ASCII leads, fewer than four names.
-/
import Derived.Test.Qxb6616638aGreatFmtAdd5
namespace Go.Proofs.Qxb6616638aGreatFmt
open Go.RowKit
open Go.Extern.Stop Go.Stop Go.Extern
open Plain
set_option linter.unusedVariables false
set_option maxRecDepth 100000

variable {w : World}

set_option maxHeartbeats 16000000 in
theorem add_A (F : Interp) (base bd O D B n cap k first q : Nat) (bs : Nat → Nat) (es : List Ent) (js : List Nat) (kv ov : Value) (ks os_ : List Value) (lsE : Nat → List Nat) (hF : F.answers w.tape)
    (AM : ∀ w', AddEnv w' base bd O D B n cap k first q bs es js kv ov ks os_ → Calls Tryz.prog 31 #[.pointer (some ⟨O, 0, none⟩), .slice (some ⟨B, 0, none⟩) n cap, .pointer (some ⟨D, 0, none⟩), .int .i64 k] w' (AddMGives w' base O first kv ov ks os_ bs es js))
    (h : AddEnv w base bd O D B n cap k first q bs es js kv ov ks os_) (ho : Objt bs n es lsE k js) (hj0 : 0 < js.length) (hkz : ∀ v ∈ ks, ∃ z, v = .int .i32 z) (hoz : ∀ v ∈ os_, ∃ z : Nat, v = .int .u64 (z : Int)) (hbw : orL bs es js &&& 141289400074368 = 0) (hkp : js.length < 4) :
    Calls Tryz.prog 21 #[.pointer (some ⟨O, 0, none⟩), .slice (some ⟨B, 0, none⟩) n cap, .pointer (some ⟨D, 0, none⟩), .int .i64 k] w (AddGives w base O first (fun i => uOf bs es lsE (js.getD i 0)) bs es js) := by
  have hOl := h.lt
  have hOn : O ≠ w.heap.size := by omega
  have hOn2 : O ≠ w.heap.size + 1 := by omega
  have hbO := h.hbase
  obtain ⟨ak, lk, ck, ek⟩ := h.rk.isSlice
  have elk : lk = first := by
    rcases h.rk.2 with ⟨h, h'⟩ | ⟨_, _, _, h, _⟩
    · rw [h] at ek; injection ek with _ e _; omega
    · rw [h] at ek; injection ek with _ e _; omega
  have c0 : w.cell? ⟨O, 0, none⟩ = some (.slice ak first ck) := by rw [h.c0, ek, elk]
  have c2 := h.c2
  have hf1 := h.hfirst
  have hks : ks.length = first * 4 := h.rk.1
  have hos : os_.length = first := by simpa using h.ro.1
  have hjl : js.length ≤ 8191 := by
    have h1 := chain_len h.hch
    have h2 := h.hbu.len
    have h3 := h.hn
    have h4 := h.hql
    omega
  have hnm : ∀ i, i < js.length → fr es (js.getD i 0) ≤ to es (js.getD i 0) ∧ to es (js.getD i 0) < n := by
    intro i hi
    obtain ⟨h1, h2, _⟩ := ho.str i hi
    unfold fr to
    omega
  have H := hide h
  have HAM := hide AM
  have HO := hide ho
  have HKZ := hide hkz
  have HOZ := hide hoz
  have HKS := hide hks
  have HOS := hide hos
  have HNM := hide hnm
  have hn := h.hn
  have hcap := h.hcap
  have hw1 : IntKind.i32.wrap (first : Int) = (first : Int) := by rw [IntKind.wrap_i32]; omega
  clear h AM ho ek elk hkz hoz hks hos hnm
  go_enter Tryz.func21, Tryz.ntmps21
  go_upto_region 1 with (fail)
  go_region
  obtain ⟨wc, hwc⟩ : ∃ wc, wc = ((w.alloc (.cells #[.int .i32 0, .int .i32 0] 69)).alloc (.cells #[.int .i32 (first : Int), .int .i32 0] 69)).drew := ⟨_, rfl⟩
  obtain ⟨x0, x1, r0, r1, rz, l2, hbc⟩ := start_blocks w first hwc
  rw [← hwc]
  clear hwc
  obtain ⟨b10, hb10⟩ : ∃ b10, b10 = w.heap.size + 1 := ⟨_, rfl⟩
  rw [← hb10] at x0 x1 l2
  have l1 : w.heap.size < b10 := by omega
  rw [← hb10]
  have hsc := hbc.size
  clear hb10
  go_wp2_with fail
  refine (HAM.out wc (H.out.below hbc)).mono ?_
  rintro e wd ⟨kv', ov', W, hh, rfl, hh0, hbut, rfl, rk', ro', sk, so, hne⟩
  obtain ⟨gk, ck', rfl⟩ := own_slice rk' (by omega)
  obtain ⟨go, co', rfl⟩ := own_slice ro' (by omega)
  have hgg : gk ≠ go := by
    rcases hne with hne | hne
    · cases hne
    · intro e
      exact hne (by rw [own_some, own_some, e])
  have hA := AM1.of H.out x0 x1 l1 l2 r0 r1 rz hbc hbut rk' ro' sk so hgg
  have hck : ck' ≠ first := by
    obtain ⟨_, _, _, h1, _⟩ := row_obj rk'
    omega
  have hco : co' ≠ first := by
    obtain ⟨_, _, _, h1, _⟩ := row_obj ro'
    omega
  have hck2 : first ≤ ck' := by
    obtain ⟨_, _, _, h1, _⟩ := row_obj rk'
    omega
  have hco2 : first + js.length ≤ co' := by
    obtain ⟨_, _, _, h1, _⟩ := row_obj ro'
    omega
  obtain ⟨w1, hw1e⟩ : ∃ w1, w1 = ((W.setCell ⟨O, 0, none⟩ (.slice (some ⟨gk, 0, none⟩) (first + js.length) ck')).setCell ⟨O, 1, none⟩ (.slice (some ⟨go, 0, none⟩) (first + js.length) co')) := ⟨_, rfl⟩
  rw [← hw1e] at hA
  rw [← hw1e]
  obtain ⟨b8, hb8⟩ : ∃ b8, b8 = w.heap.size := ⟨_, rfl⟩
  rw [← hb8] at hA
  rw [← hb8]
  have HA0 := hide hA
  clear hw1e hb8 hbut rk' ro' sk so hne hgg x0 x1 r0 r1 rz hbc l1 l2 hsc HAM c0 c2 hOn hOn2
  have o0 := hA.o0
  have o1 := hA.o1
  have x0 := hA.x0
  clear hA
  have s1 : (first : Int) ≤ ((first + js.length : Nat) : Int) := by omega
  have s2 : (0 : Int) ≤ (first : Int) := by omega
  have hor : orL bs es js < 281474976710656 := orL_lt bs es js 0 (by omega) (fun j hj => orL_lt' (fun i hi => H.out.hx.lt i hi) H.out.hch j hj)
  have hand := and_run (orL bs es js) (by omega)
  obtain ⟨xx, hxx⟩ : ∃ xx, xx = orL bs es js &&& 141289400074368 := ⟨_, rfl⟩
  rw [← hxx] at hand
  have HXX : Hid (xx = orL bs es js &&& 141289400074368) := hxx
  have hx0 : xx = 0 := by rw [hxx]; exact hbw
  clear hbw
  clear hxx hor
  generalize orL bs es js = oo at hand ⊢
  go_upto_region 6 with (fail)
  go_quiet (fail)
  have HA : Hid (AM1 w (w1.drewN nq) base O B n cap first gk go ck' co' b8 b10 bs es js ks os_) := HA0.out.drewN nq
  obtain ⟨w2, hw2⟩ : ∃ w2, w2 = w1.drewN nq := ⟨_, rfl⟩
  rw [← hw2] at HA
  rw [← hw2]
  clear hw2 o0 o1 x0 HA0
  have HST : Hid (OrdSt w2 w2 go first js.length (fun i => ldE bs es (js.getD i 0) * 65536 + i)) := HA.out.start HOS.out
  have hgl : go < w2.heap.size := HA.out.lt.2.2.2.1
  have hBg : B ≠ go := by
    have h1 := HA.out.ge
    omega
  have hkg : gk ≠ go := HA.out.ne.1
  have HFR : Hid (∀ o, o < first + js.length → w2.frozen? ⟨go, o, none⟩ = false) := HA.out.free
  have HKE : Hid (KeyEnv w2 B n cap gk first bs es js) := HA.out.env HKS.out HNM.out hn hcap (by omega)
  have HF2 : Hid (F.answers w2.tape) := by
    show F.answers w2.tape
    rw [HA.out.tape]
    exact hF
  have hjb : ((js.length : Int) ≤ 65536) := by omega
  rw [hx0] at hand
  have HX0 := hide hx0
  clear hx0
  have p4 : decide ((4 : Int) ≤ (js.length : Int)) = false := by simp; omega
  go_wp2_with fail
  refine (sortU_any _ HST.out (fun i hi => HFR.out _ (by omega)) (by omega)).mono ?_
  rintro e w3 ⟨rfl, sv, hsp, hsm, hst⟩
  have HO3 : Hid (OrdSt w2 w3 go first js.length sv) := HST.out.turnf hst
  have HSP := hide hsp
  have HSM := hide hsm
  have HVB : Hid (∀ i, i < js.length → sv i < 18446744073709551616) := sv_lt HO.out (fun i hi => H.out.hx.lt i hi) (by omega) hsp
  have HSV : Hid (∀ i, i < js.length → sv i % 65536 < js.length ∧ ldE bs es (js.getD (sv i % 65536) 0) = sv i / 65536) := sv_of (L := fun i => ldE bs es (js.getD i 0)) (by omega) hsp
  have HLC : Hid (∀ i j, i < js.length → j < js.length → ldE bs es (js.getD (sv i % 65536) 0) < ldE bs es (js.getD (sv j % 65536) 0) → cmpU (uOf bs es lsE (js.getD (sv i % 65536) 0)) (uOf bs es lsE (js.getD (sv j % 65536) 0)) < 0) :=
    fun i j hi hj hl => lead_cmp HO.out (fun i hi => H.out.hx.lt i hi) (by rw [← HXX.out]; exact HX0.out) _ _ (HSV.out i hi).1 (HSV.out j hj).1 hl
  clear hst hsp hsm
  go_wp2
  go_loopw [13, 20, 21, 22] (fun v13 v20 _ _ wr => ∃ (n' : Nat) (fo : Nat → Nat), v20 = .int .i64 (n' : Int) ∧ n' ≤ js.length ∧ OrdSt w2 wr go first js.length fo ∧ ((v13 = .nilIface ∧ GI (fun i => uOf bs es lsE (js.getD i 0)) sv js.length n' fo) ∨ ((∃ aa, v13 = .iface 149 (.pointer (some aa))) ∧ ∃ x y, x < js.length ∧ y < js.length ∧ x ≠ y ∧ cmpU (uOf bs es lsE (js.getD x 0)) (uOf bs es lsE (js.getD y 0)) = 0))) (fun _ v20 _ _ _ => js.length - (intOf v20).toNat)
  case atStart => exact ⟨0, sv, rfl, Nat.zero_le _, HO3.out, .inl ⟨rfl, GI.start _ _ _⟩⟩
  case round =>
    rename World => wr
    obtain ⟨n', fo, rfl, hle, hos', hcase⟩ := hrel
    rcases hcase with ⟨rfl, hgi⟩ | ⟨⟨aa, rfl⟩, hal⟩
    · by_cases hnl : n' < js.length
      · have d1 : (n' : Int) < (js.length : Int) := by omega
        have d0 : (0 : Int) ≤ (n' : Int) := by omega
        have HOW := hide hos'
        have HGI := hide hgi
        clear hos' hgi
        have d2 : wr.cell? ⟨go, first + n', none⟩ = some (.int .u64 (sv n' : Nat)) := by rw [HOW.out.cell n' hnl, HGI.out.tail n' (Nat.le_refl _) hnl]
        have v1 := HVB.out n' hnl
        go_wp2
        go_loopw [21] (fun v21 wx => ∃ (m qd : Nat), v21 = .int .i64 (m : Int) ∧ n' < m ∧ m ≤ js.length ∧ (∀ i, n' ≤ i → i < m → sv i / 65536 = sv n' / 65536) ∧ wx = wr.drewN qd) (fun v21 _ => js.length - (intOf v21).toNat)
        case atStart => exact ⟨n' + 1, 0, by go_num, by omega, by omega, fun i h1 h2 => by rw [show i = n' by omega], rfl⟩
        case round =>
          obtain ⟨m, qd, rfl, hm1, hm2, hin, rfl⟩ := hrel
          have HIN := hide hin
          clear hin
          by_cases hml : m < js.length
          · have d3 : (m : Int) < (js.length : Int) := by omega
            have d4 : (0 : Int) ≤ (m : Int) := by omega
            have d5 : wr.cell? ⟨go, first + m, none⟩ = some (.int .u64 (sv m : Nat)) := by rw [HOW.out.cell m hml, HGI.out.tail m (by omega) hml]
            have v2 := HVB.out m hml
            by_cases heq : sv m / 65536 = sv n' / 65536
            · have d6 : ((sv m : Int) / 65536 == (sv n' : Int) / 65536) = true := by simp; omega
              have d7 : (sv m : Int) / 65536 = (sv n' : Int) / 65536 := by omega
              have HEQ := hide heq
              clear heq
              go_upto_region 23 with (fail)
              go_quiet (fail)
              go_wp2
              go_roundw
              case rel =>
                refine ⟨m + 1, qd + nq, by go_num, by omega, by omega, fun i h1 h2 => ?_, by first | rfl | rw [World.drewN_drewN]⟩
                by_cases e : i = m
                · rw [e]; exact HEQ.out
                · exact HIN.out i h1 (by omega)
              case measure =>
                show js.length - ((m : Int) + 1).toNat < js.length - ((m : Int)).toNat
                omega
            · have d6 : ((sv m : Int) / 65536 == (sv n' : Int) / 65536) = false := by simp; omega
              have d7 : ¬ (sv m : Int) / 65536 = (sv n' : Int) / 65536 := by omega
              have hend : m = js.length ∨ sv m / 65536 ≠ sv n' / 65536 := .inr heq
              clear heq
              go_upto_region 23 with (fail)
              go_quiet (fail)
              obtain ⟨wx, hwx⟩ : ∃ wx, wx = (wr.drewN qd).drewN nq := ⟨_, rfl⟩
              have HOX : Hid (OrdSt w2 wx go first js.length fo) := by
                rw [hwx]
                exact HOW.out.after ⟨rfl, rfl, rfl, Nat.le_refl _, fun _ _ => rfl⟩
              rw [← hwx]
              clear hwx d2
              go_wp2
              go_loopw [22] (fun v22 wy => ∃ a : Nat, v22 = .int .i64 (a : Int) ∧ n' ≤ a ∧ a ≤ m ∧ OrdSt w2 wy go first js.length (fun i => if n' ≤ i ∧ i < a then sv i % 65536 else fo i)) (fun v22 _ => m - (intOf v22).toNat)
              case atStart => exact ⟨n', rfl, Nat.le_refl _, by omega, HOX.out.congr (fun i hi => by rw [if_neg (by omega)])⟩
              case round =>
                rename World => wy
                obtain ⟨a, rfl, ha1, ha2, hya⟩ := hrel
                by_cases ham : a < m
                · have k1 : (a : Int) < (m : Int) := by omega
                  have k2 : (a : Int) < (js.length : Int) := by omega
                  have k3 : (0 : Int) ≤ (a : Int) := by omega
                  have k4 : wy.cell? ⟨go, first + a, none⟩ = some (.int .u64 (sv a : Nat)) := by rw [hya.cell a (by omega), if_neg (by omega), HGI.out.tail a ha1 (by omega)]
                  have k5 := (hya.free (first + a)).trans (HFR.out (first + a) (by omega))
                  have k6 := and16_run (sv a) (HVB.out a (by omega))
                  have HYA := hide hya
                  clear hya
                  go_wp2
                  go_roundw
                  case rel =>
                    refine ⟨a + 1, by go_num, by omega, by omega, (HYA.out.set (i := a) (by omega) (sv a % 65536)).congr (fun j hj => ?_)⟩
                    show (if j = a then sv a % 65536 else if n' ≤ j ∧ j < a then sv j % 65536 else fo j) = if n' ≤ j ∧ j < a + 1 then sv j % 65536 else fo j
                    by_cases e1 : j = a
                    · subst e1; rw [if_pos rfl, if_pos (by omega)]
                    · rw [if_neg e1]
                      by_cases e2 : n' ≤ j ∧ j < a
                      · rw [if_pos e2, if_pos (by omega)]
                      · rw [if_neg e2, if_neg (by omega)]
                  case measure =>
                    show m - ((a : Int) + 1).toNat < m - ((a : Int)).toNat
                    omega
                · have eam : a = m := by omega
                  have k1 : decide ((a : Int) < (m : Int)) = false := by simp; omega
                  have HM : Hid (OrdSt w2 wy go first js.length (fun i => if n' ≤ i ∧ i < m then sv i % 65536 else fo i)) := by rw [eam] at hya; exact hya
                  clear hya
                  have hsy := HM.out.but.size
                  by_cases hg : n' + 1 < m
                  · have k2 : (n' : Int) + 1 < (m : Int) := by omega
                    have k3 : (n' : Int) ≤ (m : Int) := by omega
                    have k4 : (m : Int) ≤ ((co' - first : Nat) : Int) := by omega
                    have k5 : co' - first ≠ n' := by omega
                    have k6 : m ≤ co' - first := by omega
                    go_wp2_with fail
                    refine (sortNames_len (lsE := lsE) (k := k) F go (first + n') _ _ (m - n') ((List.range (m - n')).map (fun t => sv (n' + t) % 65536)) (by simp) (by rw [HM.out.but.tape]; exact HF2.out) (HKE.out.but HM.out.but hkg hBg) HO.out (fun i hi => ?_) hj0 (by omega) hkg hBg (fun i hi => ⟨?_, ?_⟩) (by omega)).mono ?_
                    · obtain ⟨t, ht, rfl⟩ := List.mem_map.1 hi
                      have ht := List.mem_range.1 ht
                      exact (HSV.out _ (by omega)).1
                    · have hh := HM.out.cell (n' + i) (by omega)
                      rw [if_pos (by omega)] at hh
                      rw [Nat.add_assoc, hh]
                      simp [List.getD_eq_getElem?_getD, hi]
                    · exact (HM.out.free _).trans (HFR.out _ (by omega))
                    rintro e w7 ⟨is', hp, ht, hres⟩
                    have hO7 := (HM.out.turn (n := n') (m := m) (is := is') ht (by omega) hm2).congr (fo' := paste n' m is' fo) (fun i hi => by
                      unfold paste
                      by_cases e : n' ≤ i ∧ i < m
                      · simp only [if_pos e]
                      · simp only [if_neg e])
                    have HO7 := hide hO7
                    have HP7 := hide hp
                    clear hO7 ht hp
                    rcases hres with ⟨rfl, hstr⟩ | ⟨⟨aa, rfl⟩, i', hi', hz⟩
                    · go_wp2
                      go_roundw
                      case rel => exact ⟨m, _, rfl, hm2, HO7.out, .inl ⟨rfl, HGI.out.step (L := fun i => ldE bs es (js.getD i 0)) hm1 hm2 HSM.out (fun i hi => (HSV.out i hi).2) HLC.out HIN.out hend HP7.out hstr⟩⟩
                      case measure =>
                        show js.length - ((m : Int)).toNat < js.length - ((n' : Int)).toNat
                        omega
                    · go_wp2
                      go_roundw
                      case rel => exact ⟨m, _, rfl, hm2, HO7.out, .inr ⟨⟨aa, rfl⟩, two_alike (us := fun i => uOf bs es lsE (js.getD i 0)) (L := fun i => ldE bs es (js.getD i 0)) (by omega) HSP.out hm2 (by omega) HP7.out hi' hz⟩⟩
                      case measure =>
                        show js.length - ((m : Int)).toNat < js.length - ((n' : Int)).toNat
                        omega
                  · have em : m = n' + 1 := by omega
                    have k2 : decide ((n' : Int) + 1 < (m : Int)) = false := by simp; omega
                    have HO7 : Hid (OrdSt w2 wy go first js.length (paste n' m [sv n' % 65536] fo)) := HM.out.congr (fun i hi => by
                      unfold paste
                      by_cases e : n' ≤ i ∧ i < m
                      · rw [if_pos e, if_pos e, show i = n' by omega]
                        simp
                      · rw [if_neg e, if_neg e])
                    have HP7 : Hid ([sv n' % 65536].Perm ((List.range (m - n')).map (fun t => sv (n' + t) % 65536))) := by
                      show List.Perm _ _
                      rw [show m - n' = 1 by omega]
                      exact List.Perm.refl _
                    have HEM := hide em
                    clear em eam
                    go_wp2
                    go_roundw
                    case rel => exact ⟨m, _, rfl, hm2, HO7.out, .inl ⟨rfl, HGI.out.step (L := fun i => ldE bs es (js.getD i 0)) hm1 hm2 HSM.out (fun i hi => (HSV.out i hi).2) HLC.out HIN.out hend HP7.out (strict_one _ _)⟩⟩
                    case measure =>
                      show js.length - ((m : Int)).toNat < js.length - ((n' : Int)).toNat
                      omega
          · have d3 : decide ((m : Int) < (js.length : Int)) = false := by simp; omega
            have hend : m = js.length ∨ sv m / 65536 ≠ sv n' / 65536 := .inl (by omega)
            have HEND := hide hend
            clear hend
            go_upto_region 23 with (fail)
            go_quiet (fail)
            have hend := HEND.out
            obtain ⟨wx, hwx⟩ : ∃ wx, wx = (wr.drewN qd).drewN nq := ⟨_, rfl⟩
            have HOX : Hid (OrdSt w2 wx go first js.length fo) := by
              rw [hwx]
              exact HOW.out.after ⟨rfl, rfl, rfl, Nat.le_refl _, fun _ _ => rfl⟩
            rw [← hwx]
            clear hwx d2
            go_wp2
            go_loopw [22] (fun v22 wy => ∃ a : Nat, v22 = .int .i64 (a : Int) ∧ n' ≤ a ∧ a ≤ m ∧ OrdSt w2 wy go first js.length (fun i => if n' ≤ i ∧ i < a then sv i % 65536 else fo i)) (fun v22 _ => m - (intOf v22).toNat)
            case atStart => exact ⟨n', rfl, Nat.le_refl _, by omega, HOX.out.congr (fun i hi => by rw [if_neg (by omega)])⟩
            case round =>
              rename World => wy
              obtain ⟨a, rfl, ha1, ha2, hya⟩ := hrel
              by_cases ham : a < m
              · have k1 : (a : Int) < (m : Int) := by omega
                have k2 : (a : Int) < (js.length : Int) := by omega
                have k3 : (0 : Int) ≤ (a : Int) := by omega
                have k4 : wy.cell? ⟨go, first + a, none⟩ = some (.int .u64 (sv a : Nat)) := by rw [hya.cell a (by omega), if_neg (by omega), HGI.out.tail a ha1 (by omega)]
                have k5 := (hya.free (first + a)).trans (HFR.out (first + a) (by omega))
                have k6 := and16_run (sv a) (HVB.out a (by omega))
                have HYA := hide hya
                clear hya
                go_wp2
                go_roundw
                case rel =>
                  refine ⟨a + 1, by go_num, by omega, by omega, (HYA.out.set (i := a) (by omega) (sv a % 65536)).congr (fun j hj => ?_)⟩
                  show (if j = a then sv a % 65536 else if n' ≤ j ∧ j < a then sv j % 65536 else fo j) = if n' ≤ j ∧ j < a + 1 then sv j % 65536 else fo j
                  by_cases e1 : j = a
                  · subst e1; rw [if_pos rfl, if_pos (by omega)]
                  · rw [if_neg e1]
                    by_cases e2 : n' ≤ j ∧ j < a
                    · rw [if_pos e2, if_pos (by omega)]
                    · rw [if_neg e2, if_neg (by omega)]
                case measure =>
                  show m - ((a : Int) + 1).toNat < m - ((a : Int)).toNat
                  omega
              · have eam : a = m := by omega
                have k1 : decide ((a : Int) < (m : Int)) = false := by simp; omega
                have HM : Hid (OrdSt w2 wy go first js.length (fun i => if n' ≤ i ∧ i < m then sv i % 65536 else fo i)) := by rw [eam] at hya; exact hya
                clear hya
                have hsy := HM.out.but.size
                by_cases hg : n' + 1 < m
                · have k2 : (n' : Int) + 1 < (m : Int) := by omega
                  have k3 : (n' : Int) ≤ (m : Int) := by omega
                  have k4 : (m : Int) ≤ ((co' - first : Nat) : Int) := by omega
                  have k5 : co' - first ≠ n' := by omega
                  have k6 : m ≤ co' - first := by omega
                  go_wp2_with fail
                  refine (sortNames_len (lsE := lsE) (k := k) F go (first + n') _ _ (m - n') ((List.range (m - n')).map (fun t => sv (n' + t) % 65536)) (by simp) (by rw [HM.out.but.tape]; exact HF2.out) (HKE.out.but HM.out.but hkg hBg) HO.out (fun i hi => ?_) hj0 (by omega) hkg hBg (fun i hi => ⟨?_, ?_⟩) (by omega)).mono ?_
                  · obtain ⟨t, ht, rfl⟩ := List.mem_map.1 hi
                    have ht := List.mem_range.1 ht
                    exact (HSV.out _ (by omega)).1
                  · have hh := HM.out.cell (n' + i) (by omega)
                    rw [if_pos (by omega)] at hh
                    rw [Nat.add_assoc, hh]
                    simp [List.getD_eq_getElem?_getD, hi]
                  · exact (HM.out.free _).trans (HFR.out _ (by omega))
                  rintro e w7 ⟨is', hp, ht, hres⟩
                  have hO7 := (HM.out.turn (n := n') (m := m) (is := is') ht (by omega) hm2).congr (fo' := paste n' m is' fo) (fun i hi => by
                    unfold paste
                    by_cases e : n' ≤ i ∧ i < m
                    · simp only [if_pos e]
                    · simp only [if_neg e])
                  have HO7 := hide hO7
                  have HP7 := hide hp
                  clear hO7 ht hp
                  rcases hres with ⟨rfl, hstr⟩ | ⟨⟨aa, rfl⟩, i', hi', hz⟩
                  · go_wp2
                    go_roundw
                    case rel => exact ⟨m, _, rfl, hm2, HO7.out, .inl ⟨rfl, HGI.out.step (L := fun i => ldE bs es (js.getD i 0)) hm1 hm2 HSM.out (fun i hi => (HSV.out i hi).2) HLC.out HIN.out hend HP7.out hstr⟩⟩
                    case measure =>
                      show js.length - ((m : Int)).toNat < js.length - ((n' : Int)).toNat
                      omega
                  · go_wp2
                    go_roundw
                    case rel => exact ⟨m, _, rfl, hm2, HO7.out, .inr ⟨⟨aa, rfl⟩, two_alike (us := fun i => uOf bs es lsE (js.getD i 0)) (L := fun i => ldE bs es (js.getD i 0)) (by omega) HSP.out hm2 (by omega) HP7.out hi' hz⟩⟩
                    case measure =>
                      show js.length - ((m : Int)).toNat < js.length - ((n' : Int)).toNat
                      omega
                · have em : m = n' + 1 := by omega
                  have k2 : decide ((n' : Int) + 1 < (m : Int)) = false := by simp; omega
                  have HO7 : Hid (OrdSt w2 wy go first js.length (paste n' m [sv n' % 65536] fo)) := HM.out.congr (fun i hi => by
                    unfold paste
                    by_cases e : n' ≤ i ∧ i < m
                    · rw [if_pos e, if_pos e, show i = n' by omega]
                      simp
                    · rw [if_neg e, if_neg e])
                  have HP7 : Hid ([sv n' % 65536].Perm ((List.range (m - n')).map (fun t => sv (n' + t) % 65536))) := by
                    show List.Perm _ _
                    rw [show m - n' = 1 by omega]
                    exact List.Perm.refl _
                  have HEM := hide em
                  clear em eam
                  go_wp2
                  go_roundw
                  case rel => exact ⟨m, _, rfl, hm2, HO7.out, .inl ⟨rfl, HGI.out.step (L := fun i => ldE bs es (js.getD i 0)) hm1 hm2 HSM.out (fun i hi => (HSV.out i hi).2) HLC.out HIN.out hend HP7.out (strict_one _ _)⟩⟩
                  case measure =>
                    show js.length - ((m : Int)).toNat < js.length - ((n' : Int)).toNat
                    omega
      · have d1 : decide ((n' : Int) < (js.length : Int)) = false := by simp; omega
        have en : n' = js.length := by omega
        have hOS := hos'
        have HSTR : Hid (StrictP (fun i => uOf bs es lsE (js.getD i 0)) ((List.range js.length).map fo)) := by rw [en] at hgi; exact hgi.strict
        have HPRM : Hid (((List.range js.length).map fo).Perm (List.range js.length)) := by rw [en] at hgi; exact hgi.last (L := fun i => ldE bs es (js.getD i 0)) (by omega) HSP.out
        clear hgi hos' en
        have hTL := HA.out.tail hOS
        have y0 := hTL.x0
        have y1 := hTL.x1
        have e0 := hTL.r0
        have e1 := hTL.r1
        have g0 := hTL.z0
        have g1 := hTL.z1
        have HOS5 := hide hOS
        have hb8w : b8 < wr.heap.size := World.block_lt_of_cell? _ _ e0
        have fA := set_same (v := .int .i32 (first : Int)) e0
        have fB : ((wr.setCell ⟨b8, 0, none⟩ (.int .i32 (first : Int))).setCell ⟨b8, 1, none⟩ (.int .i32 0)).cell? ⟨b8, 1, none⟩ = some (.int .i32 0) := set_same ((set_other (.inr (by omega))).trans e1)
        have FA := hide fA
        have FB := hide fB
        clear hTL hOS fA fB
        go_wp2
        refine bodyPost_ret (v := .tuple #[.agg #[.int .i32 (first : Int), .int .i32 0], .nilIface]) (by simp [results, Tryz.results21, go_sem, FA.out, FB.out]) rfl ?_
        refine HA.out.ok HOS5.out HKS.out HKZ.out HOS.out HOZ.out hj0 HSTR.out HPRM.out (((Below.refl _ _).setCell (p := ⟨b8, 0, none⟩) HA.out.ge.2.2.2.1 _).setCell (p := ⟨b8, 1, none⟩) HA.out.ge.2.2.2.1 _) ?_
        intro b o hb hbo
        obtain ⟨n1, n2, n3, n4, n5, n6, n7, n8, n9, n10⟩ := HA.out.ne
        rw [set_other (.inl (by omega)), set_other (.inl (by omega))]
    · have HAL : Hid (∃ x y, x < js.length ∧ y < js.length ∧ x ≠ y ∧ cmpU (uOf bs es lsE (js.getD x 0)) (uOf bs es lsE (js.getD y 0)) = 0) := hal
      have hOS := hos'
      clear hal hos'
      by_cases hnl : n' < js.length
      · have d1 : (n' : Int) < (js.length : Int) := by omega
        have hTL := HA.out.tail hOS
        have e0 := hTL.o0
        have e1 := hTL.o1
        have e2 := hTL.o2
        have y0 := hTL.x0
        have y1 := hTL.x1
        have hOw : O < wr.heap.size := World.block_lt_of_cell? _ _ e0
        have g0 := hTL.fz 0
        have g1 := hTL.fz 1
        have g2 := hTL.fz 2
        have HTL := hide hTL
        have HOS5 := hide hOS
        clear hTL hOS
        go_wp2_with fail
        refine (drop_any O first (first + js.length) ck' (first + js.length) co' (some ⟨gk, 0, none⟩) (some ⟨go, 0, none⟩) hOw e0 e1 e2 g0 g1 g2 (by omega) (by omega) (by omega)).mono ?_
        rintro e w6 ⟨rfl, hd⟩
        have v0 : w6.cell? ⟨b8, 0, none⟩ = some (.int .i32 0) := (hd.but.cell (World.block_lt_of_cell? _ _ HTL.out.r0) (fun e => HA.out.ne.2.2.2.2.2.2.2.1 e.symm)).trans HTL.out.r0
        have v1 : w6.cell? ⟨b8, 1, none⟩ = some (.int .i32 0) := (hd.but.cell (World.block_lt_of_cell? _ _ HTL.out.r0) (fun e => HA.out.ne.2.2.2.2.2.2.2.1 e.symm)).trans HTL.out.r1
        have q0 : w6.frozen? ⟨b8, 0, none⟩ = false := (hd.but.frozen (World.block_lt_of_cell? _ _ HTL.out.r0) (fun e => HA.out.ne.2.2.2.2.2.2.2.1 e.symm)).trans HTL.out.z0
        have q1 : w6.frozen? ⟨b8, 1, none⟩ = false := (hd.but.frozen (World.block_lt_of_cell? _ _ HTL.out.r0) (fun e => HA.out.ne.2.2.2.2.2.2.2.1 e.symm)).trans HTL.out.z1
        have HD6 := hide hd
        have FA : Hid ((w6.setCell ⟨b8, 0, none⟩ (.int .i32 0)).cell? ⟨b8, 0, none⟩ = some (.int .i32 0)) := set_same v0
        have FB : Hid (((w6.setCell ⟨b8, 0, none⟩ (.int .i32 0)).setCell ⟨b8, 1, none⟩ (.int .i32 0)).cell? ⟨b8, 1, none⟩ = some (.int .i32 0)) := set_same ((set_other (.inr (by omega))).trans v1)
        clear hd e0 e1 e2 y0 y1
        go_wp2
        refine bodyPost_ret (v := .tuple #[.agg #[.int .i32 0, .int .i32 0], .iface 149 (.pointer (some aa))]) (by simp [results, Tryz.results21, go_sem, FA.out, FB.out]) rfl ?_
        exact HA.out.no HOS5.out HKS.out HKZ.out HOS.out HOZ.out HAL.out HD6.out _ _
      · have d1 : decide ((n' : Int) < (js.length : Int)) = false := by simp; omega
        have hTL := HA.out.tail hOS
        have e0 := hTL.o0
        have e1 := hTL.o1
        have e2 := hTL.o2
        have y0 := hTL.x0
        have y1 := hTL.x1
        have hOw : O < wr.heap.size := World.block_lt_of_cell? _ _ e0
        have g0 := hTL.fz 0
        have g1 := hTL.fz 1
        have g2 := hTL.fz 2
        have HTL := hide hTL
        have HOS5 := hide hOS
        clear hTL hOS
        go_wp2_with fail
        refine (drop_any O first (first + js.length) ck' (first + js.length) co' (some ⟨gk, 0, none⟩) (some ⟨go, 0, none⟩) hOw e0 e1 e2 g0 g1 g2 (by omega) (by omega) (by omega)).mono ?_
        rintro e w6 ⟨rfl, hd⟩
        have v0 : w6.cell? ⟨b8, 0, none⟩ = some (.int .i32 0) := (hd.but.cell (World.block_lt_of_cell? _ _ HTL.out.r0) (fun e => HA.out.ne.2.2.2.2.2.2.2.1 e.symm)).trans HTL.out.r0
        have v1 : w6.cell? ⟨b8, 1, none⟩ = some (.int .i32 0) := (hd.but.cell (World.block_lt_of_cell? _ _ HTL.out.r0) (fun e => HA.out.ne.2.2.2.2.2.2.2.1 e.symm)).trans HTL.out.r1
        have q0 : w6.frozen? ⟨b8, 0, none⟩ = false := (hd.but.frozen (World.block_lt_of_cell? _ _ HTL.out.r0) (fun e => HA.out.ne.2.2.2.2.2.2.2.1 e.symm)).trans HTL.out.z0
        have q1 : w6.frozen? ⟨b8, 1, none⟩ = false := (hd.but.frozen (World.block_lt_of_cell? _ _ HTL.out.r0) (fun e => HA.out.ne.2.2.2.2.2.2.2.1 e.symm)).trans HTL.out.z1
        have HD6 := hide hd
        have FA : Hid ((w6.setCell ⟨b8, 0, none⟩ (.int .i32 0)).cell? ⟨b8, 0, none⟩ = some (.int .i32 0)) := set_same v0
        have FB : Hid (((w6.setCell ⟨b8, 0, none⟩ (.int .i32 0)).setCell ⟨b8, 1, none⟩ (.int .i32 0)).cell? ⟨b8, 1, none⟩ = some (.int .i32 0)) := set_same ((set_other (.inr (by omega))).trans v1)
        clear hd e0 e1 e2 y0 y1
        go_wp2
        refine bodyPost_ret (v := .tuple #[.agg #[.int .i32 0, .int .i32 0], .iface 149 (.pointer (some aa))]) (by simp [results, Tryz.results21, go_sem, FA.out, FB.out]) rfl ?_
        exact HA.out.no HOS5.out HKS.out HKZ.out HOS.out HOZ.out HAL.out HD6.out _ _

end Go.Proofs.Qxb6616638aGreatFmt
