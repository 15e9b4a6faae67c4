/-
  add over a fresh Names, whole; ZZNamesAdd.
-/
import Derived.Test.Qxb6616638aGreatFmtAddM
import Derived.Test.Qxb6616638aGreatFmtAddA
import Derived.Test.Qxb6616638aGreatFmtAddB
import Derived.Test.Qxb6616638aGreatFmtAddC
import Derived.Test.Qxb6616638aGreatFmtAddK
import Derived.Test.Qxb6616638aGreatFmtAddE
namespace Go.Proofs.Qxb6616638aGreatFmt
open Go.RowKit
open Go.Extern.Stop Go.Stop Go.Extern
open Plain
set_option linter.unusedVariables false
set_option maxRecDepth 100000

variable {w : World}

theorem add_fresh (F : Interp) (base bd O D B n cap k q : Nat) (bs : Nat → Nat) (es : List Ent) (js : List Nat) (lsE : Nat → List Nat) (hF : F.answers w.tape)
    (h : AddEnv w base bd O D B n cap k 0 q bs es js (.slice none 0 0) (.slice none 0 0) [] []) (ho : Objt bs n es lsE k js) :
    Calls Tryz.prog 21 #[.pointer (some ⟨O, 0, none⟩), .slice (some ⟨B, 0, none⟩) n cap, .pointer (some ⟨D, 0, none⟩), .int .i64 k] w (AddGives w base O 0 (fun i => uOf bs es lsE (js.getD i 0)) bs es js) := by
  by_cases hj : js = []
  · subst hj
    exact add_E F base bd O D B n cap k q bs es _ h
  · have hj0 : 0 < js.length := List.length_pos_iff.2 hj
    have AM : ∀ w', AddEnv w' base bd O D B n cap k 0 q bs es js (.slice none 0 0) (.slice none 0 0) [] [] → Calls Tryz.prog 31 #[.pointer (some ⟨O, 0, none⟩), .slice (some ⟨B, 0, none⟩) n cap, .pointer (some ⟨D, 0, none⟩), .int .i64 k] w' (AddMGives w' base O 0 (.slice none 0 0) (.slice none 0 0) [] [] bs es js) :=
      fun w' h' => addMembers_any base bd O D B n cap k 0 q bs es js _ _ [] [] h'.hT h'.hx h'.hB h'.hbd h'.hbase h'.hn h'.hcap h'.hbu h'.hk h'.hq h'.hql h'.hch h'.hfirst h'.c0 h'.c1 (h'.fz 0) (h'.fz 1) h'.rk h'.ro h'.nk h'.no h'.nko
    have hkz : ∀ v ∈ ([] : List Value), ∃ z, v = .int .i32 z := fun v hv => by cases hv
    have hoz : ∀ v ∈ ([] : List Value), ∃ z : Nat, v = .int .u64 (z : Int) := fun v hv => by cases hv
    by_cases hbw : orL bs es js &&& 141289400074368 = 0
    · by_cases h1 : js.length < 4
      · exact add_A F base bd O D B n cap k 0 q bs es js _ _ [] [] lsE hF AM h ho hj0 hkz hoz hbw h1
      · by_cases h2 : 128 < js.length
        · exact add_B F base bd O D B n cap k 0 q bs es js _ _ [] [] lsE hF AM h ho hj0 hkz hoz hbw h2
        · exact add_K F base bd O D B n cap k 0 q bs es js _ _ [] [] lsE hF AM h ho hj0 hkz hoz hbw (by omega) (by omega)
    · exact add_C F base bd O D B n cap k 0 q bs es js _ _ [] [] lsE hF AM h ho hj0 hkz hoz hbw

/-- What ZZNamesAdd leaves. -/
def NAddGives (w : World) (base O first : Nat) (us : Nat → List Nat) (bs : Nat → Nat) (es : List Ent) (js : List Nat) (e : Ending) (w' : World) : Prop :=
  Below base w w' ∧ ((e = .returned (.tuple #[.int .i32 (first : Int), .int .i32 0, .nilIface]) ∧ ∃ od fk fo, StrictP us od ∧ od.Perm (List.range js.length) ∧ NR w' w'.heap.size O (first + js.length) fk fo ∧ (∀ i, i < js.length → fo (first + i) = od.getD i 0) ∧
        (∀ i f, i < js.length → f < 4 → fk (first + i) f = intOf ((keyE bs es (js.getD i 0)).getD f .nilIface))) ∨
    ((∃ a, e = .returned (.tuple #[.int .i32 0, .int .i32 0, .iface 149 (.pointer (some a))])) ∧ (∃ x y, x < js.length ∧ y < js.length ∧ x ≠ y ∧ cmpU (us x) (us y) = 0) ∧ ∃ fk fo, NR w' w'.heap.size O first fk fo))

theorem NR.up {w : World} {bd bd' O nk : Nat} {fk : Nat → Nat → Int} {fo : Nat → Nat} (h : NR w bd O nk fk fo) (hb : bd ≤ bd') : NR w bd' O nk fk fo := by
  refine ⟨Nat.lt_of_lt_of_le h.ltO hb, ?_, ?_⟩
  · obtain ⟨ak, ck, gk, e1, e2, e3⟩ := h.keys
    exact ⟨ak, ck, gk, e1, fun hn => ⟨(e2 hn).1, Nat.lt_of_lt_of_le (e2 hn).2 hb⟩, e3⟩
  · obtain ⟨a, c, e1, a', c', g, e2, e3, e4⟩ := h.order
    exact ⟨a, c, e1, a', c', g, e2, fun hn => ⟨(e3 hn).1, Nat.lt_of_lt_of_le (e3 hn).2 hb⟩, e4⟩

set_option maxHeartbeats 4000000 in
theorem namesAdd_any {base O first : Nat} {us : Nat → List Nat} {bs : Nat → Nat} {es : List Ent} {js : List Nat} (B n cap D k : Nat) (hbw : base ≤ w.heap.size)
    (HA : Calls Tryz.prog 21 #[.pointer (some ⟨O, 0, none⟩), .slice (some ⟨B, 0, none⟩) n cap, .pointer (some ⟨D, 0, none⟩), .int .i64 k] w (AddGives w base O first us bs es js)) :
    Calls Tryz.prog 9 #[.pointer (some ⟨O, 0, none⟩), .slice (some ⟨B, 0, none⟩) n cap, .pointer (some ⟨D, 0, none⟩), .int .i64 k] w (NAddGives w base O first us bs es js) := by
  have H := hide HA
  clear HA
  go_enter Tryz.func9, Tryz.ntmps9
  go_wp2_with fail
  refine H.out.mono ?_
  rintro e w1 ⟨hlow, ⟨rfl, od, fk, fo, h1, h2, h3, h4, h5⟩ | ⟨⟨a, rfl⟩, h1, fk, fo, h2⟩⟩
  · have HL := hide hlow
    have H1 := hide h1
    have H2 := hide h2
    have H3 := hide h3
    have H4 := hide h4
    have H5 := hide h5
    clear hlow h1 h2 h3 h4 h5
    go_wp2
    go_quiet (fail)
    go_wp2
    refine bodyPost_ret (v := .tuple #[.int .i32 (first : Int), .int .i32 0, .nilIface]) (by simp [results, Tryz.results9, go_sem]) rfl ?_
    have hb1 : Below w1.heap.size w1 ((w1.alloc (.cells #[.int .i32 (first : Int), .int .i32 0] 69)).drewN nq) := by
      have hh := (Below.refl w1.heap.size w1).alloc (Nat.le_refl _) (.cells #[.int .i32 (first : Int), .int .i32 0] 69)
      exact ⟨hh.os, hh.tape, hh.output, hh.size, hh.block⟩
    exact ⟨HL.out.trans (hb1.mono (Nat.le_trans hbw HL.out.size)), .inl ⟨rfl, od, fk, fo, H1.out, H2.out, (H3.out.below hb1).up hb1.size, H4.out, H5.out⟩⟩
  · have HL := hide hlow
    have H1 := hide h1
    have H2 := hide h2
    clear hlow h1 h2
    go_wp2
    go_quiet (fail)
    go_wp2
    refine bodyPost_ret (v := .tuple #[.int .i32 0, .int .i32 0, .iface 149 (.pointer (some a))]) (by simp [results, Tryz.results9, go_sem]) rfl ?_
    have hb1 : Below w1.heap.size w1 ((w1.alloc (.cells #[.int .i32 0, .int .i32 0] 69)).drewN nq) := by
      have hh := (Below.refl w1.heap.size w1).alloc (Nat.le_refl _) (.cells #[.int .i32 0, .int .i32 0] 69)
      exact ⟨hh.os, hh.tape, hh.output, hh.size, hh.block⟩
    exact ⟨HL.out.trans (hb1.mono (Nat.le_trans hbw HL.out.size)), .inr ⟨⟨a, rfl⟩, H1.out, fk, fo, (H2.out.below hb1).up hb1.size⟩⟩

end Go.Proofs.Qxb6616638aGreatFmt
