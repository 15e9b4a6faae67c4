/-
  THE WALK of zzAddAgrees.
-/
import Derived.Test.Qxb6616638aGreatFmtNR
namespace Go.Proofs.Qxb6616638aGreatFmt
open Go.RowKit
open Plain
set_option linter.unusedVariables false
set_option maxRecDepth 100000

theorem Sl.ofRow {w : World} {G m c : Nat} {f : Nat → Value} (h : Row w G m f) : Sl w w.heap.size (.slice (some ⟨G, 0, none⟩) m c) m f :=
  ⟨_, c, G, rfl, fun _ => ⟨rfl, h.lt⟩, h.cell⟩

variable {w : World} {bd B n cap T : Nat} {bs : Nat → Nat} {es : List Ent} {g cp : Nat → Nat} {lsE : Nat → List Nat} {k : Nat} {js : List Nat}

set_option maxHeartbeats 4000000 in
theorem agrees_ok (bn O before : Nat) (od : List Nat) (fk : Nat → Nat → Int) (fo : Nat → Nat) (h : Env w bd B n cap T bs es g cp) (ho : Objt bs n es lsE k js) (hO : StrictP (fun i => uOf bs es lsE (js.getD i 0)) od) (hP : od.Perm (List.range js.length))
    (hN : NR w bn O (before + js.length) fk fo) (hbn : bn ≤ w.heap.size) (hbe : before ≤ 100000) (hfo : ∀ i, i < js.length → fo (before + i) = od.getD i 0)
    (h0 : ∀ i, i < js.length → fk (before + i) 0 = (js.getD i 0 : Nat)) (h1 : ∀ i, i < js.length → fk (before + i) 1 = ((at_ es (js.getD i 0)).st : Int) + 1) (h2 : ∀ i, i < js.length → fk (before + i) 2 = ((at_ es (js.getD i 0)).en : Int) - 1)
    (h3 : ∀ i, i < js.length → fk (before + i) 3 = (mEnd bs es (js.getD i 0) : Nat)) :
    Calls Tryz.prog 10 #[.slice (some ⟨B, 0, none⟩) n cap, .pointer (some ⟨T, 0, none⟩), .int .i64 k, .pointer (some ⟨O, 0, none⟩), .int .i64 before, .int .i32 before, .int .i32 0, .bool false] w fun e w' => e = .returned (.bool true) ∧ Below w.heap.size w w' := by
  have H := hide h
  have HO := hide ho
  have HS := hide hO
  have HP := hide hP
  have HN := hide hN
  have hl1 := ho.len
  have hl2 := h.built.len
  have hl3 := h.hn
  have F1 := hide hfo; have F2 := hide h0; have F3 := hide h1; have F4 := hide h2; have F5 := hide h3
  clear h ho hO hP hN hfo h0 h1 h2 h3
  go_enter Tryz.func10, Tryz.ntmps10
  go_wp2_with fail
  refine (mems_obj H.out HO.out).mono ?_
  rintro e w1 ⟨⟨a, c, rfl, hs1⟩, hb1⟩
  have HB1 := hide hb1
  have HS1 := hide hs1
  have H1 := hide (H.out.below (hb1.mono H.out.hbd))
  clear hb1 hs1
  go_wp2_with fail
  refine (names_obj _ H1.out HO.out HS1.out).mono ?_
  rintro e w2 ⟨rfl, hr2, hb2⟩
  have HR2 := hide hr2
  have HB2 := hide hb2
  have H2 := hide (H1.out.below (hb2.mono H1.out.hbd))
  clear hr2 hb2
  go_wp2_with fail
  refine (sort_obj _ H2.out HO.out HR2.out).mono ?_
  rintro e w3 ⟨gp, P, d, rfl, hrp, hpp, hsp, hd1, hd2, hb3⟩
  have ed : d = true := by
    cases d with
    | true => rfl
    | false =>
      obtain ⟨x, y, hx, hy, hxy, he⟩ := hd2 rfl
      exact absurd he (HS.out.distinct _ HP.out hx hy hxy)
  subst ed
  have H3 := hide (H2.out.below (hb3.mono H2.out.hbd))
  have HBA : Hid (Below w.heap.size w w3) := (HB1.out.trans (HB2.out.mono HB1.out.size)).trans (hb3.mono (Nat.le_trans HB1.out.size HB2.out.size))
  have HN3 := hide (HN.out.below (HBA.out.mono hbn))
  have hs3 := HBA.out.size
  clear hrp hpp hsp hb3 HB1 HB2 HR2 H1 H2 HS1 hd1 hd2 HN
  go_wp2_with fail
  refine (order_any HN3.out).mono ?_
  rintro e w' ⟨⟨ao, co, rfl, hso⟩, rfl⟩
  have HSO := hide hso
  clear hso
  go_wp2_with fail
  refine (keys_any HN3.out (by omega) (by omega)).mono ?_
  rintro e w4 ⟨g0, g1, g2, g3, rfl, r0, r1, r2, r3, hb4⟩
  have R0 := hide r0; have R1 := hide r1; have R2 := hide r2; have R3 := hide r3
  have HB4 := hide hb4
  have HN4 := hide (HN3.out.below (hb4.mono (by omega)))
  have H4 := hide (H3.out.below (hb4.mono H3.out.hbd))
  have HSO4 := hide ((HSO.out.below (hb4.mono (by omega))).mono (show bn ≤ w4.heap.size by have := hb4.size; omega))
  clear r0 r1 r2 r3 hb4
  go_wp2_with fail
  refine (end_any HN4.out (by omega)).mono ?_
  rintro e w' ⟨rfl, rfl⟩
  have t1 : ((before : Int) == (before : Int)) = true := by simp
  have t2 : (((before + js.length : Nat) : Int) == (before : Int) + (js.length : Int)) = true := by simp
  go_wp2_with fail
  refine (orderAt_any before od H4.out HO.out HS.out HP.out _ _ _ _ _ _ _ _ _ _ _ _ _ _ _ HSO4.out (Sl.ofRow R0.out) (Sl.ofRow R1.out) (Sl.ofRow R2.out) (Sl.ofRow R3.out) (Nat.le_refl _) (Nat.le_refl _) (Nat.le_refl _) (Nat.le_refl _) (Nat.le_refl _) (by omega)
    (fun i hi => by rw [F1.out i hi]) (fun i hi => by rw [F2.out i hi]) (fun i hi => by rw [F3.out i hi]) (fun i hi => by rw [F4.out i hi]) (fun i hi => by rw [F5.out i hi])).mono ?_
  rintro e w5 ⟨rfl, hb5⟩
  have HB5 := hide hb5
  clear hb5
  go_wp2
  go_ret
  exact ⟨rfl, (HBA.out.trans (HB4.out.mono hs3)).trans (HB5.out.mono (by have := HB4.out.size; omega))⟩

set_option maxHeartbeats 4000000 in
theorem agrees_no (bn O before : Nat) (fk : Nat → Nat → Int) (fo : Nat → Nat) (h : Env w bd B n cap T bs es g cp) (ho : Objt bs n es lsE k js) (hA : ∃ x y, x < js.length ∧ y < js.length ∧ x ≠ y ∧ cmpU (uOf bs es lsE (js.getD x 0)) (uOf bs es lsE (js.getD y 0)) = 0)
    (hN : NR w bn O before fk fo) (hbn : bn ≤ w.heap.size) (hbe : before ≤ 100000) :
    Calls Tryz.prog 10 #[.slice (some ⟨B, 0, none⟩) n cap, .pointer (some ⟨T, 0, none⟩), .int .i64 k, .pointer (some ⟨O, 0, none⟩), .int .i64 before, .int .i32 0, .int .i32 0, .bool true] w fun e w' => e = .returned (.bool true) ∧ Below w.heap.size w w' := by
  have H := hide h
  have HO := hide ho
  have HA := hide hA
  have HN := hide hN
  have hl1 := ho.len
  have hl2 := h.built.len
  have hl3 := h.hn
  clear h ho hA hN
  go_enter Tryz.func10, Tryz.ntmps10
  go_wp2_with fail
  refine (mems_obj H.out HO.out).mono ?_
  rintro e w1 ⟨⟨a, c, rfl, hs1⟩, hb1⟩
  have HB1 := hide hb1
  have HS1 := hide hs1
  have H1 := hide (H.out.below (hb1.mono H.out.hbd))
  clear hb1 hs1
  go_wp2_with fail
  refine (names_obj _ H1.out HO.out HS1.out).mono ?_
  rintro e w2 ⟨rfl, hr2, hb2⟩
  have HR2 := hide hr2
  have HB2 := hide hb2
  have H2 := hide (H1.out.below (hb2.mono H1.out.hbd))
  clear hr2 hb2
  go_wp2_with fail
  refine (sort_obj _ H2.out HO.out HR2.out).mono ?_
  rintro e w3 ⟨gp, P, d, rfl, hrp, hpp, hsp, hd1, hd2, hb3⟩
  have ed : d = false := by
    cases d with
    | false => rfl
    | true =>
      obtain ⟨x, y, hx, hy, hxy, he⟩ := HA.out
      exact absurd he ((hd1 rfl).distinct _ hpp hx hy hxy)
  subst ed
  have HBA : Hid (Below w.heap.size w w3) := (HB1.out.trans (HB2.out.mono HB1.out.size)).trans (hb3.mono (Nat.le_trans HB1.out.size HB2.out.size))
  have HN3 := hide (HN.out.below (HBA.out.mono hbn))
  have hs3 := HBA.out.size
  clear hrp hpp hsp hb3 HB1 HB2 HR2 H1 H2 HS1 hd1 hd2 HN
  go_wp2_with fail
  refine (order_any HN3.out).mono ?_
  rintro e w' ⟨⟨ao, co, rfl, hso⟩, rfl⟩
  clear hso
  go_wp2_with fail
  refine (keys_any HN3.out (by omega) (by omega)).mono ?_
  rintro e w4 ⟨g0, g1, g2, g3, rfl, r0, r1, r2, r3, hb4⟩
  have HB4 := hide hb4
  have HN4 := hide (HN3.out.below (hb4.mono (by omega)))
  clear r0 r1 r2 r3 hb4
  go_wp2_with fail
  refine (end_any HN4.out (by omega)).mono ?_
  rintro e w' ⟨rfl, rfl⟩
  have t1 : ((before : Int) == (before : Int)) = true := by simp
  go_wp2
  go_ret
  exact ⟨ret_bool (by simp), HBA.out.trans (HB4.out.mono hs3)⟩

end Go.Proofs.Qxb6616638aGreatFmt
