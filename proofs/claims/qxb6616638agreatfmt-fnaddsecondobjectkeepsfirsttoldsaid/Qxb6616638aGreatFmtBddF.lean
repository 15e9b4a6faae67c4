/-
  Statement 4: add over any Names, whole.
-/
import Derived.Test.Qxb6616638aGreatFmtAddM
import Derived.Test.Qxb6616638aGreatFmtBddA
import Derived.Test.Qxb6616638aGreatFmtBddB
import Derived.Test.Qxb6616638aGreatFmtBddC
import Derived.Test.Qxb6616638aGreatFmtBddK
import Derived.Test.Qxb6616638aGreatFmtBddE
namespace Go.Proofs.Qxb6616638aGreatFmt.Two
open Go.Proofs.Qxb6616638aGreatFmt
open Go.RowKit
open Go.Extern.Stop Go.Stop Go.Extern
open Plain
set_option linter.unusedVariables false
set_option maxRecDepth 100000

variable {w : World}

theorem slice_form {w : World} {base : Nat} {e : TypeId} {sz : Nat} {v : Value} {n : Nat} {xs : List Value} (h : w.ownsRow base e sz v n xs) : ∃ a c, v = .slice a n c ∧ (a = none ∧ c = 0 ∨ ∃ g, a = some ⟨g, 0, none⟩) := by
  rcases h.2 with ⟨h1, h2⟩ | ⟨g, cap, cur, h1, _⟩
  · exact ⟨none, 0, by rw [h1, h2], .inl ⟨rfl, rfl⟩⟩
  · exact ⟨_, cap, h1, .inr ⟨g, rfl⟩⟩

theorem add_two (F : Interp) (base bd O D B n cap k first q : Nat) (bs : Nat → Nat) (es : List Ent) (js : List Nat) (kv ov : Value) (ks os_ : List Value) (lsE : Nat → List Nat) (hF : F.answers w.tape)
    (h : AddEnv w base bd O D B n cap k first q bs es js kv ov ks os_) (ho : Objt bs n es lsE k js) (hsl : Slots w base O kv ov) :
    Calls Tryz.prog 21 #[.pointer (some ⟨O, 0, none⟩), .slice (some ⟨B, 0, none⟩) n cap, .pointer (some ⟨D, 0, none⟩), .int .i64 k] w (AddGives w base O first (fun i => uOf bs es lsE (js.getD i 0)) bs es js ks os_ (KeptO base O)) := by
  by_cases hj : js = []
  · subst hj
    obtain ⟨ak, ck, rfl, hak⟩ := slice_form h.rk
    obtain ⟨ao, co, rfl, hao⟩ := slice_form h.ro
    exact (add_E F base bd O D B n cap k q bs es _ ak ao ck co first ks os_ hak hao h).mono (fun e w' hg => hg.mono (fun kv ov hh => keptO_of hh))
  · have hj0 : 0 < js.length := List.length_pos_iff.2 hj
    have AM : ∀ w', AddEnv w' base bd O D B n cap k first q bs es js kv ov ks os_ → Calls Tryz.prog 31 #[.pointer (some ⟨O, 0, none⟩), .slice (some ⟨B, 0, none⟩) n cap, .pointer (some ⟨D, 0, none⟩), .int .i64 k] w' (AddMGives w' base O first kv ov ks os_ bs es js) :=
      fun w' h' => addMembers_any base bd O D B n cap k first q bs es js kv ov ks os_ h'.hT h'.hx h'.hB h'.hbd h'.hbase h'.hn h'.hcap h'.hbu h'.hk h'.hq h'.hql h'.hch h'.hfirst h'.c0 h'.c1 (h'.fz 0) (h'.fz 1) h'.rk h'.ro h'.nk h'.no h'.nko
    by_cases hbw : orL bs es js &&& 141289400074368 = 0
    · by_cases h1 : js.length < 4
      · exact (add_A F base bd O D B n cap k first q bs es js kv ov ks os_ lsE hF AM h ho hj0 hbw h1).mono (fun e w' hg => hg.mono (fun kv ov hh => keptO_of hh))
      · by_cases h2 : 128 < js.length
        · exact (add_B F base bd O D B n cap k first q bs es js kv ov ks os_ lsE hF AM h ho hj0 hbw h2).mono (fun e w' hg => hg.mono (fun kv ov hh => keptO_of hh))
        · exact add_K F base bd O D B n cap k first q bs es js kv ov ks os_ lsE hF AM h ho hj0 hbw (by omega) (by omega) hsl
    · exact (add_C F base bd O D B n cap k first q bs es js kv ov ks os_ lsE hF AM h ho hj0 hbw).mono (fun e w' hg => hg.mono (fun kv ov hh => keptO_of hh))

end Go.Proofs.Qxb6616638aGreatFmt.Two
