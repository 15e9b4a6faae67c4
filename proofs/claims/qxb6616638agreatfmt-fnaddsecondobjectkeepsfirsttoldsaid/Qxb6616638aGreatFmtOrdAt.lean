/-
  THE WALK of zzOrderAt.
-/
import Derived.Test.Qxb6616638aGreatFmtSortU
namespace Go.Proofs.Qxb6616638aGreatFmt
open Go.RowKit
open Plain
set_option linter.unusedVariables false
set_option maxRecDepth 100000

/-- What the checks read: the text, the tape. -/
structure Env (w : World) (bd B n cap T : Nat) (bs : Nat → Nat) (es : List Ent) (g cp : Nat → Nat) : Prop where
  tr : TR w bd T es g cp
  txt : Txt w B n bs
  ltB : B < bd
  hbd : bd ≤ w.heap.size
  built : Built bs n es
  hn : n ≤ 16383
  hcap : n ≤ cap

theorem Env.below {w w' : World} {bd B n cap T : Nat} {bs : Nat → Nat} {es : List Ent} {g cp : Nat → Nat} (h : Env w bd B n cap T bs es g cp) (hb : Below bd w w') : Env w' bd B n cap T bs es g cp :=
  ⟨h.tr.below hb, fun i hi => ⟨(hb.cell (p := ⟨B, i, none⟩) h.ltB).trans (h.txt i hi).1, (h.txt i hi).2⟩, h.ltB, Nat.le_trans h.hbd hb.size, h.built, h.hn, h.hcap⟩

theorem quiet_of2 {P : Program} {f : FuncId} {args : Array Value} {w : World} {q n : Nat} {v : Value}
    (h : Calls P f args (w.drewN (q + n)) fun e w' => e = .returned v ∧ ∃ m, w' = (w.drewN (q + n)).drewN m) : Calls P f args (w.drewN (q + n)) fun e w'' => e = .returned v ∧ ∃ m, w'' = w.drewN (q + m) :=
  h.mono fun _ _ ⟨he, m, hm⟩ => ⟨he, n + m, by rw [hm, World.drewN_drewN, Nat.add_assoc]⟩

namespace Plain
/-- Object k of the tape: its names' entries js; lsE: their characters. -/
structure Objt (bs : Nat → Nat) (n : Nat) (es : List Ent) (lsE : Nat → List Nat) (k : Nat) (js : List Nat) : Prop where
  lt : k < es.length
  en : (at_ es k).en < es.length
  mem : mems es k ((at_ es k).en - (k + 1)) = js
  nx : ∀ i, i < js.length → js.getD i 0 + 1 < es.length
  str : ∀ i, i < js.length → Str bs n (at_ es (js.getD i 0)).st (at_ es (js.getD i 0)).en
  chars : ∀ i, i < js.length → Chars bs (fr es (js.getD i 0)) (lsE (js.getD i 0)) (to es (js.getD i 0))
  len : js.length ≤ es.length

/-- The code units of the name of entry j. -/
def uOf (bs : Nat → Nat) (es : List Ent) (lsE : Nat → List Nat) (j : Nat) : List Nat := units bs (fr es j) (lsE j)

theorem Objt.to_le {bs : Nat → Nat} {n : Nat} {es : List Ent} {lsE : Nat → List Nat} {k : Nat} {js : List Nat} (h : Objt bs n es lsE k js) {i : Nat} (hi : i < js.length) : to es (js.getD i 0) ≤ n := by
  have := (h.str i hi).2.1
  unfold to
  omega

/-- The sorted permutation is the strictly sorted one, where there is one. -/
theorem SortedP.eq {us : Nat → List Nat} {m : Nat} {P O : List Nat} (hp : SortedP us P) (pp : P.Perm (List.range m)) (ho : StrictP us O) (po : O.Perm (List.range m)) : P = O := by
  refine StrictP.unique us (StrictP.of us hp (fun k hk => ?_)) ho pp po
  have lp : P.length = m := by rw [pp.length_eq, List.length_range]
  have e1 : P.getD k 0 = P[k] := by simp [List.getD_eq_getElem?_getD, show k < P.length by omega]
  have e2 : P.getD (k + 1) 0 = P[k + 1] := by simp [List.getD_eq_getElem?_getD, hk]
  rw [e1, e2]
  refine ho.distinct us po (List.mem_range.1 (pp.mem_iff.1 (List.getElem_mem _))) (List.mem_range.1 (pp.mem_iff.1 (List.getElem_mem _))) ?_
  exact List.pairwise_iff_getElem.1 (pp.nodup_iff.2 List.nodup_range) k (k + 1) (by omega) (by omega) (by omega)
end Plain

variable {w : World} {bd B n cap T : Nat} {bs : Nat → Nat} {es : List Ent} {g cp : Nat → Nat} {lsE : Nat → List Nat} {k : Nat} {js : List Nat}

/-- zzMembers of the object. -/
theorem mems_obj (h : Env w bd B n cap T bs es g cp) (ho : Objt bs n es lsE k js) :
    Calls Tryz.prog 12 #[.pointer (some ⟨T, 0, none⟩), .int .i64 k] w fun e w' => (∃ a c, e = .returned (.slice a js.length c) ∧ Sl w' w'.heap.size (.slice a js.length c) js.length (fun i => .int .i64 (js.getD i 0 : Nat))) ∧ Below w.heap.size w w' := by
  refine (members_any k h.tr (by have := h.built.len; have := h.hn; omega) ho.lt ho.en h.hbd (fun x hx => (h.built.ok x hx).1.2.2)).mono ?_
  rintro e w' ⟨⟨v, rfl, hown⟩, hb⟩
  rw [ho.mem] at hown
  have hs := Sl.of hown (fun i => .int .i64 (js.getD i 0 : Nat)) (fun i hi => by simp [ints64, List.getD_eq_getElem?_getD, List.getElem?_eq_getElem hi])
  obtain ⟨a, c, g', rfl, h1, h2⟩ := hs
  exact ⟨⟨a, c, rfl, ⟨a, c, g', rfl, h1, h2⟩⟩, hb⟩

/-- zzNamesOf of the object. -/
theorem names_obj (v : Value) (h : Env w bd B n cap T bs es g cp) (ho : Objt bs n es lsE k js) (hv : Sl w w.heap.size v js.length (fun i => .int .i64 (js.getD i 0 : Nat))) :
    Calls Tryz.prog 14 #[.slice (some ⟨B, 0, none⟩) n cap, .pointer (some ⟨T, 0, none⟩), v] w fun e w' => e = .returned (.slice (some ⟨w.heap.size, 0, none⟩) js.length js.length) ∧ Row w' w.heap.size js.length (fun i => slOf B cap es (js.getD i 0)) ∧ Below w.heap.size w w' :=
  namesOf_any B n cap bs js v h.tr h.hbd h.hn h.hcap h.built.len hv (fun i hi => ⟨by have := ho.nx i hi; omega, ho.str i hi⟩) (by have := ho.len; have := h.built.len; have := h.hn; omega)

/-- zzSortByUnits of the object's names. -/
theorem sort_obj (hh : Nat) (h : Env w bd B n cap T bs es g cp) (ho : Objt bs n es lsE k js) (hr : Row w hh js.length (fun i => slOf B cap es (js.getD i 0))) :
    Calls Tryz.prog 13 #[.slice (some ⟨hh, 0, none⟩) js.length js.length] w (SortGives (fun i => uOf bs es lsE (js.getD i 0)) js.length w) :=
  sortByUnits_any B n js.length hh bs (fun i => fr es (js.getD i 0)) (fun i => to es (js.getD i 0)) (fun i => cap - fr es (js.getD i 0)) (fun i => lsE (js.getD i 0)) _ w h.hn (by have := ho.len; have := h.built.len; have := h.hn; omega) h.txt (Nat.lt_of_lt_of_le h.ltB h.hbd) hr
    (fun i hi => ⟨ho.chars i hi, ho.to_le hi⟩) (fun i hi => rfl)

set_option maxHeartbeats 4000000 in
theorem orderAt_any (at' : Nat) (O : List Nat) (h : Env w bd B n cap T bs es g cp) (ho : Objt bs n es lsE k js) (hO : StrictP (fun i => uOf bs es lsE (js.getD i 0)) O) (hP : O.Perm (List.range js.length))
    (vo ve vf vt vn : Value) (lo le lf lt ln : Nat) (fo fe ff ft fn : Nat → Value) (so : Sl w w.heap.size vo lo fo) (se : Sl w w.heap.size ve le fe) (sf : Sl w w.heap.size vf lf ff) (st : Sl w w.heap.size vt lt ft) (sn : Sl w w.heap.size vn ln fn)
    (hlo : at' + js.length ≤ lo) (hle : at' + js.length ≤ le) (hlf : at' + js.length ≤ lf) (hlt : at' + js.length ≤ lt) (hln : at' + js.length ≤ ln) (hbig : lo ≤ 1000000 ∧ le ≤ 1000000 ∧ lf ≤ 1000000 ∧ lt ≤ 1000000 ∧ ln ≤ 1000000)
    (ho' : ∀ i, i < js.length → fo (at' + i) = .int .u64 (O.getD i 0 : Nat)) (he' : ∀ i, i < js.length → fe (at' + i) = .int .i32 (js.getD i 0 : Nat)) (hf' : ∀ i, i < js.length → ff (at' + i) = .int .i32 ((at_ es (js.getD i 0)).st + 1 : Int))
    (ht' : ∀ i, i < js.length → ft (at' + i) = .int .i32 ((at_ es (js.getD i 0)).en - 1 : Int)) (hn' : ∀ i, i < js.length → fn (at' + i) = .int .i32 (mEnd bs es (js.getD i 0) : Nat)) :
    Calls Tryz.prog 17 #[.slice (some ⟨B, 0, none⟩) n cap, .pointer (some ⟨T, 0, none⟩), .int .i64 k, .int .i64 at', vo, ve, vf, vt, vn] w fun e w' => e = .returned (.bool true) ∧ Below w.heap.size w w' := by
  obtain ⟨ao, co, g0, rfl, so1, so2⟩ := so
  obtain ⟨ae, ce, ge, rfl, se1, se2⟩ := se
  obtain ⟨af, cf, gf, rfl, sf1, sf2⟩ := sf
  obtain ⟨aT, ct, gt, rfl, st1, st2⟩ := st
  obtain ⟨an, cn, gn, rfl, sn1, sn2⟩ := sn
  have H := hide h
  have HO := hide ho
  have HS := hide hO
  have HP := hide hP
  have hlen := ho.len
  have hl2 := h.built.len
  have hl3 := h.hn
  have A1 := hide so1; have A2 := hide so2; have A3 := hide se1; have A4 := hide se2; have A5 := hide sf1; have A6 := hide sf2
  have A7 := hide st1; have A8 := hide st2; have A9 := hide sn1; have A10 := hide sn2
  have F1 := hide ho'; have F2 := hide he'; have F3 := hide hf'; have F4 := hide ht'; have F5 := hide hn'
  clear h ho hO hP so1 so2 se1 se2 sf1 sf2 st1 st2 sn1 sn2 ho' he' hf' ht' hn'
  go_enter Tryz.func17, Tryz.ntmps17
  go_wp2_with fail
  refine (mems_obj H.out HO.out).mono ?_
  rintro e w1 ⟨⟨a, c, rfl, hs1⟩, hb1⟩
  have HB1 := hide hb1
  have HS1 := hide hs1
  have H1 := hide (H.out.below (hb1.mono H.out.hbd))
  clear hb1 hs1
  go_wp2_with fail
  refine (names_obj _ H1.out HO.out HS1.out).mono ?_
  rintro e w2 ⟨rfl, hr2, hb2⟩
  have HR2 := hide hr2
  have HB2 := hide hb2
  have H2 := hide (H1.out.below (hb2.mono H1.out.hbd))
  clear hr2 hb2
  go_wp2_with fail
  refine (sort_obj _ H2.out HO.out HR2.out).mono ?_
  rintro e w3 ⟨gp, P, d, rfl, hrp, hpp, hsp, _, _, hb3⟩
  have eP : P = O := hsp.eq hpp HS.out HP.out
  subst eP
  have HRP := hide hrp
  have H3 := hide (H2.out.below (hb3.mono H2.out.hbd))
  have HBA : Hid (Below w.heap.size w w3) := (HB1.out.trans (HB2.out.mono HB1.out.size)).trans (hb3.mono (Nat.le_trans HB1.out.size HB2.out.size))
  have hsj := ((HS1.out.below HB2.out).below (hb3.mono HB2.out.size)).mono (Nat.le_trans HB2.out.size hb3.size)
  obtain ⟨a', c', gj, ej, hj1, hj2⟩ := hsj
  injection ej with ej1 _ ej3
  subst ej1
  subst ej3
  have J1 := hide hj1
  have J2 := hide hj2
  clear hj1 hj2
  clear hrp hpp hsp hb3 HB1 HB2 HR2 H1 H2 HS1
  have t1 : ¬ (lo : Int) < (at' : Int) + (js.length : Int) := by omega
  have t2 : ¬ (le : Int) < (at' : Int) + (js.length : Int) := by omega
  have t3 : ¬ (lf : Int) < (at' : Int) + (js.length : Int) := by omega
  have t4 : ¬ (lt : Int) < (at' : Int) + (js.length : Int) := by omega
  have t5 : ¬ (ln : Int) < (at' : Int) + (js.length : Int) := by omega
  go_wp2
  go_loopw [70, 23, 24] (fun t v23 v24 wr => ∃ i : Nat, t = .int .i64 i ∧ i ≤ js.length ∧ Below w.heap.size w wr ∧ Below w3.heap.size w3 wr) (fun t _ _ _ => 20000 - (intOf t).toNat)
  case atStart => exact ⟨0, rfl, Nat.zero_le _, HBA.out, Below.refl _ _⟩
  case round =>
    rename World => wx
    obtain ⟨i, rfl, hi, hbx, hbx3⟩ := hrel
    have HBX := hide hbx
    have HB3 := hide hbx3
    clear hbx hbx3
    by_cases hlti : i < js.length
    · have ea := (A1.out (by omega)).1
      have eb := (A3.out (by omega)).1
      have ec := (A5.out (by omega)).1
      have ed := (A7.out (by omega)).1
      have ee := (A9.out (by omega)).1
      subst ea; subst eb; subst ec; subst ed; subst ee
      have c1 := (HBX.out.cell (p := ⟨g0, at' + i, none⟩) (A1.out (by omega)).2).trans (A2.out (at' + i) (by omega))
      have c2 := (HBX.out.cell (p := ⟨ge, at' + i, none⟩) (A3.out (by omega)).2).trans (A4.out (at' + i) (by omega))
      have c3 := (HBX.out.cell (p := ⟨gf, at' + i, none⟩) (A5.out (by omega)).2).trans (A6.out (at' + i) (by omega))
      have c4 := (HBX.out.cell (p := ⟨gt, at' + i, none⟩) (A7.out (by omega)).2).trans (A8.out (at' + i) (by omega))
      have c5 := (HBX.out.cell (p := ⟨gn, at' + i, none⟩) (A9.out (by omega)).2).trans (A10.out (at' + i) (by omega))
      rw [F1.out i hlti] at c1
      rw [F2.out i hlti] at c2
      rw [F3.out i hlti] at c3
      rw [F4.out i hlti] at c4
      rw [F5.out i hlti] at c5
      have HE := hide (H3.out.below (HB3.out.mono H3.out.hbd))
      have ef := (J1.out (by omega)).1
      subst ef
      have cj := (HB3.out.cell (p := ⟨gj, i, none⟩) (J1.out (by omega)).2).trans (J2.out i hlti)
      have cpm := (HRP.out.below HB3.out HRP.out.lt).cell i hlti
      have hpb : P.getD i 0 < js.length := List.mem_range.1 (HP.out.mem_iff.1 (by
        have hlp : P.length = js.length := by rw [HP.out.length_eq, List.length_range]
        simp [List.getD_eq_getElem?_getD, show i < P.length by omega]))
      have hnx := HO.out.nx i hlti
      have T0 := HE.out.tr.cell 0 (by omega)
      have T1 := HE.out.tr.cell 1 (by omega)
      have s0 := HE.out.tr.st (js.getD i 0) (by omega)
      have s1 := HE.out.tr.en (js.getD i 0) (by omega)
      have hf1 := (HE.out.built.ok (js.getD i 0) (by omega)).1.1
      have hf2 := (HE.out.built.ok (js.getD i 0) (by omega)).1.2.1
      have HCALL : Hid (∀ q, Calls Tryz.prog 25 #[.slice (some ⟨B, 0, none⟩) n cap, .pointer (some ⟨T, 0, none⟩), .int .i64 (js.getD i 0 : Nat)] (wx.drewN q) fun e w' => e = .returned (.int .i32 (mEnd bs es (js.getD i 0) : Nat)) ∧ ∃ m, w' = (wx.drewN q).drewN m) := by
        intro q
        have he := HE.out.below (belowN (Below.refl bd wx) q)
        exact memberEnd_any B n cap (js.getD i 0) bs he.tr he.hn he.txt he.built hnx
      generalize js.getD i 0 = j at *
      generalize P.getD i 0 = x at *
      generalize mEnd bs es j = me at *
      generalize (at_ es j).st = s at *
      generalize (at_ es j).en = e at *
      have k1 : (j : Int) < (es.length : Int) := by omega
      have k2 : (0 : Int) ≤ (j : Int) := by omega
      have k3 : (i : Int) < (js.length : Int) := by omega
      have k4 : (0 : Int) ≤ (i : Int) := by omega
      have m0 : (0 : Int) ≤ (at' : Int) + (i : Int) := by omega
      have mw : IntKind.i64.wrap ((at' : Int) + (i : Int)) = (at' : Int) + (i : Int) := by rw [IntKind.wrap_i64]; omega
      have mt : ((at' : Int) + (i : Int)).toNat = at' + i := by omega
      have w1' : IntKind.i32.wrap (j : Int) = (j : Int) := by rw [IntKind.wrap_i32]; omega
      have w2' : IntKind.i32.wrap ((s : Int) + 1) = (s : Int) + 1 := by rw [IntKind.wrap_i32]; omega
      have w3' : IntKind.i32.wrap ((e : Int) - 1) = (e : Int) - 1 := by rw [IntKind.wrap_i32]; omega
      have q1 : ((j : Int) != (j : Int)) = false := by simp
      have q2 : ((s : Int) + 1 != (s : Int) + 1) = false := by simp
      have q3 : ((e : Int) - 1 != (e : Int) - 1) = false := by simp
      have q4 : ((me : Int) != (me : Int)) = false := by simp
      have m1 : (at' : Int) + (i : Int) < (lo : Int) := by omega
      have m2 : (at' : Int) + (i : Int) < (le : Int) := by omega
      have m3 : (at' : Int) + (i : Int) < (lf : Int) := by omega
      have m4 : (at' : Int) + (i : Int) < (lt : Int) := by omega
      have m5 : (at' : Int) + (i : Int) < (ln : Int) := by omega
      go_wp2
      go_quiet (fail)
      go_wp2
      go_quiet (first | (go_at_call 25; refine quiet_of2 (HCALL.out _)))
      go_wp2
      exact ⟨⟨i + 1, by go_num, by omega, belowN HBX.out _, belowN HB3.out _⟩, by simp [intOf]; omega⟩
    · have hd : ¬ (i : Int) < (js.length : Int) := by omega
      go_wp2
      go_ret
      exact ⟨rfl, HBX.out⟩

end Go.Proofs.Qxb6616638aGreatFmt
