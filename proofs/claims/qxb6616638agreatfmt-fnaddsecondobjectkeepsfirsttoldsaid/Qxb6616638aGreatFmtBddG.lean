/-
  Statement 4: ZZNamesAdd over any Names.
-/
import Derived.Test.Qxb6616638aGreatFmtBddF
namespace Go.Proofs.Qxb6616638aGreatFmt.Two
open Go.Proofs.Qxb6616638aGreatFmt
open Go.RowKit
open Go.Extern.Stop Go.Stop Go.Extern
open Plain
set_option linter.unusedVariables false
set_option maxRecDepth 100000

variable {w : World}

theorem NSt.below {w w' : World} {base O first : Nat} {kv ov : Value} {ks os_ : List Value} (h : NSt w base O first kv ov ks os_) (hb : Below w.heap.size w w') : NSt w' base O first kv ov ks os_ := by
  have hO : O < w.heap.size := World.block_lt_of_cell? _ _ h.c0
  exact ⟨h.hbase, (hb.cell (p := ⟨O, 0, none⟩) hO).trans h.c0, (hb.cell (p := ⟨O, 1, none⟩) hO).trans h.c1, (hb.cell (p := ⟨O, 2, none⟩) hO).trans h.c2, fun o => (hb.frozen (p := ⟨O, o, none⟩) hO).trans (h.fz o), ownsRow_below h.rk hb, ownsRow_below h.ro hb, h.nk, h.no, h.nko⟩

theorem Slots.below {w w' : World} {base O : Nat} {kv ov : Value} (h : Slots w base O kv ov) (hO : O < w.heap.size) (hb : Below w.heap.size w w') : Slots w' base O kv ov := fun s hs => by
  obtain ⟨hh, v, xs, h1⟩ := h s hs
  exact ⟨hh, v, xs, (hb.cell (p := ⟨O, 3 + s * 2, none⟩) hO).trans h1.c0, (hb.cell (p := ⟨O, 3 + s * 2 + 1, none⟩) hO).trans h1.c1, ownsRow_below h1.row hb, h1.lt, h1.neO, h1.nek, h1.neo⟩

/-- What ZZNamesAdd leaves. -/
def NAddGives (w : World) (base O first : Nat) (us : Nat → List Nat) (bs : Nat → Nat) (es : List Ent) (js : List Nat) (ks os_ : List Value) (e : Ending) (w' : World) : Prop :=
  Below base w w' ∧ ((e = .returned (.tuple #[.int .i32 (first : Int), .int .i32 0, .nilIface]) ∧ ∃ od kv ov, StrictP us od ∧ od.Perm (List.range js.length) ∧ NSt w' base O (first + js.length) kv ov (ks ++ keysOf bs es js) (os_ ++ ordV od) ∧ KeptO base O kv ov w w') ∨
    ((∃ a, e = .returned (.tuple #[.int .i32 0, .int .i32 0, .iface 149 (.pointer (some a))])) ∧ (∃ x y, x < js.length ∧ y < js.length ∧ x ≠ y ∧ cmpU (us x) (us y) = 0) ∧ ∃ kv ov, NSt w' base O first kv ov ks os_ ∧ ∀ o, 3 ≤ o → w'.cell? ⟨O, o, none⟩ = w.cell? ⟨O, o, none⟩))

set_option maxHeartbeats 4000000 in
theorem namesAdd_two {base O first : Nat} {us : Nat → List Nat} {bs : Nat → Nat} {es : List Ent} {js : List Nat} {ks os_ : List Value} (B n cap D k : Nat) (hbw : base ≤ w.heap.size)
    (HA : Calls Tryz.prog 21 #[.pointer (some ⟨O, 0, none⟩), .slice (some ⟨B, 0, none⟩) n cap, .pointer (some ⟨D, 0, none⟩), .int .i64 k] w (AddGives w base O first us bs es js ks os_ (KeptO base O))) :
    Calls Tryz.prog 9 #[.pointer (some ⟨O, 0, none⟩), .slice (some ⟨B, 0, none⟩) n cap, .pointer (some ⟨D, 0, none⟩), .int .i64 k] w (NAddGives w base O first us bs es js ks os_) := by
  have H := hide HA
  clear HA
  go_enter Tryz.func9, Tryz.ntmps9
  go_wp2_with fail
  refine H.out.mono ?_
  rintro e w1 ⟨hlow, ⟨rfl, od, kv, ov, h1, h2, h3, h4⟩ | ⟨⟨a, rfl⟩, h1, kv, ov, h2, h3⟩⟩
  · have HL := hide hlow
    have H1 := hide h1
    have H2 := hide h2
    have H3 := hide h3
    have H4 := hide h4
    clear hlow h1 h2 h3 h4
    go_wp2
    go_quiet (fail)
    go_wp2
    refine bodyPost_ret (v := .tuple #[.int .i32 (first : Int), .int .i32 0, .nilIface]) (by simp [results, Tryz.results9, go_sem]) rfl ?_
    have hb1 : Below w1.heap.size w1 ((w1.alloc (.cells #[.int .i32 (first : Int), .int .i32 0] 69)).drewN nq) := by
      have hh := (Below.refl w1.heap.size w1).alloc (Nat.le_refl _) (.cells #[.int .i32 (first : Int), .int .i32 0] 69)
      exact ⟨hh.os, hh.tape, hh.output, hh.size, hh.block⟩
    exact ⟨HL.out.trans (hb1.mono (Nat.le_trans hbw HL.out.size)), .inl ⟨rfl, od, kv, ov, H1.out, H2.out, H3.out.below hb1, fun hf => (H4.out hf).below (World.block_lt_of_cell? _ _ H3.out.c0) hb1⟩⟩
  · have HL := hide hlow
    have H1 := hide h1
    have H2 := hide h2
    have H3 := hide h3
    clear hlow h1 h2 h3
    go_wp2
    go_quiet (fail)
    go_wp2
    refine bodyPost_ret (v := .tuple #[.int .i32 0, .int .i32 0, .iface 149 (.pointer (some a))]) (by simp [results, Tryz.results9, go_sem]) rfl ?_
    have hb1 : Below w1.heap.size w1 ((w1.alloc (.cells #[.int .i32 0, .int .i32 0] 69)).drewN nq) := by
      have hh := (Below.refl w1.heap.size w1).alloc (Nat.le_refl _) (.cells #[.int .i32 0, .int .i32 0] 69)
      exact ⟨hh.os, hh.tape, hh.output, hh.size, hh.block⟩
    have hOl : O < w1.heap.size := World.block_lt_of_cell? _ _ H2.out.c0
    exact ⟨HL.out.trans (hb1.mono (Nat.le_trans hbw HL.out.size)), .inr ⟨⟨a, rfl⟩, H1.out, kv, ov, H2.out.below hb1, fun o ho => (hb1.cell (p := ⟨O, o, none⟩) hOl).trans (H3.out o ho)⟩⟩

end Go.Proofs.Qxb6616638aGreatFmt.Two
