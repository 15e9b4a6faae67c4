/-
  THE WALK of value, which calls itself.
-/
import Derived.Test.Qxb6616638aGreatFmtBuild
namespace Go.Proofs.Qxb6616638aGreatFmt
open Go.RowKit
open Plain
set_option linter.unusedVariables false
set_option maxRecDepth 100000

/-- What 'value' gives. -/
def ValGives (bs : Nat → Nat) (n : Nat) (w : World) (B0 T : Nat) (es : List Ent) (i : Nat) (parent : Int) (e : Ending) (w' : World) : Prop :=
  (∃ es' : List Ent, Tp w' B0 T es' ∧ (e = .returned (.int .i64 (-1)) ∨ ∃ j : Nat, e = .returned (.int .i64 j) ∧ ValPost bs n es es' i parent j)) ∧ Below B0 w w'

/-- Its contract, up to a depth. -/
def ValUpTo (B n cap : Nat) (bs : Nat → Nat) (B0 T N : Nat) : Prop :=
  ∀ (es : List Ent) (i : Nat) (parent : Int) (w : World), n - i < N → i ≤ 16384 → es.length ≤ i → -1 ≤ parent → parent < es.length → Tp w B0 T es → Txt w B n bs →
    Calls Tryz.prog 18 #[.pointer (some ⟨T, 0, none⟩), .slice (some ⟨B, 0, none⟩) n cap, .int .i64 i, .int .i64 parent] w (ValGives bs n w B0 T es i parent)

theorem Txt.below {w w' : World} {B n B0 : Nat} {bs : Nat → Nat} (h : Txt w B n bs) (hb : Below B0 w w') (hB : B < B0) : Txt w' B n bs :=
  fun i hi => ⟨(hb.cell (p := ⟨B, i, none⟩) hB).trans (h i hi).1, (h i hi).2⟩

variable {B n cap B0 T : Nat} {bs : Nat → Nat}

theorem value_out (es : List Ent) (i : Nat) (parent : Int) (w : World) (h : n ≤ i) (hi : i ≤ 16384) (ht : Tp w B0 T es) :
    Calls Tryz.prog 18 #[.pointer (some ⟨T, 0, none⟩), .slice (some ⟨B, 0, none⟩) n cap, .int .i64 i, .int .i64 parent] w (ValGives bs n w B0 T es i parent) := by
  have HT := hide ht
  clear ht
  go_enter Tryz.func18, Tryz.ntmps18
  go_wp2
  go_ret
  exact ⟨⟨_, HT.out, .inl rfl⟩, Below.refl _ _⟩

set_option maxHeartbeats 1000000 in
theorem value_scalar (es : List Ent) (i : Nat) (parent : Int) (w : World) (hn : n ≤ 16383) (hin : i < n) (hL : es.length ≤ i) (hp : -1 ≤ parent) (hp2 : parent < es.length) (ht : Tp w B0 T es) (hx : Txt w B n bs) (hB : B < B0)
    (h1 : bs i ≠ 123) (h2 : bs i ≠ 91) :
    Calls Tryz.prog 18 #[.pointer (some ⟨T, 0, none⟩), .slice (some ⟨B, 0, none⟩) n cap, .int .i64 i, .int .i64 parent] w (ValGives bs n w B0 T es i parent) := by
  have HX := hide hx
  have HT := hide ht
  have HP : Hid (∀ e, i < e → e ≤ n → ValPost bs n es (es ++ [⟨i, e, false, false, parent⟩]) i parent e) := fun e a b => ValPost.scalar a b hp hp2 h1 h2
  have hc := hx.at i hin
  have hii : (i : Int) < (n : Int) := by omega
  have hi0 : (0 : Int) ≤ (i : Int) := by omega
  clear hx ht
  generalize bs i = x at hc h1 h2
  have x1 : ((x : Int) != 123) = true := by simp; omega
  have x2 : ((x : Int) != 91) = true := by simp; omega
  clear h1 h2
  go_enter Tryz.func18, Tryz.ntmps18
  go_wp2_with fail
  refine (scalar_any B n cap i bs _ hn hin HX.out).mono ?_
  rintro e w' ⟨h, q, rfl⟩
  rcases h with rfl | ⟨k, rfl, hk1, hk2⟩
  · go_wp2
    go_ret
    exact ⟨⟨_, HT.out.drewN q, .inl rfl⟩, below_drewN (Below.refl _ _) _⟩
  · go_wp2_with fail
    refine (pushE_any i k false false parent (HT.out.drewN q) (by omega) (by omega) (by omega) hp (by omega)).mono ?_
    rintro e w1 ⟨rfl, ht1, hb1⟩
    have HT1 := hide ht1
    clear ht1
    go_wp2
    go_ret
    exact ⟨⟨_, HT1.out, .inr ⟨k, rfl, HP.out k hk1 hk2⟩⟩, (below_drewN (Below.refl _ _) _).trans hb1⟩

end Go.Proofs.Qxb6616638aGreatFmt
