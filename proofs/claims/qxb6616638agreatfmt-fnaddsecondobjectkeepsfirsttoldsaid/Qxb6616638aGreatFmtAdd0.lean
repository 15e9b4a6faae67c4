/-
  What add is given, and what it leaves.
-/
import Derived.Test.Qxb6616638aGreatFmtAddM2
import Derived.Test.Qxb6616638aGreatFmtSortN0
import Derived.Test.Qxb6616638aGreatFmtLeadP
import Derived.Test.Qxb6616638aGreatFmtGroupP
import Derived.Test.Qxb6616638aGreatFmtNR
namespace Go.Proofs.Qxb6616638aGreatFmt
open Go.RowKit
open Plain
set_option linter.unusedVariables false
set_option maxRecDepth 100000

/-- The kept orders of a Names, each empty. -/
def Fresh (w : World) (O : Nat) : Prop := ∀ s, s < 256 → w.cell? ⟨O, 3 + s * 2, none⟩ = some (.int .u64 0) ∧ w.cell? ⟨O, 3 + s * 2 + 1, none⟩ = some (.slice none 0 0)

structure AddEnv (w : World) (base bd O D B n cap k first q : Nat) (bs : Nat → Nat) (es : List Ent) (js : List Nat) (kv ov : Value) (ks os_ : List Value) : Prop where
  hT : NT w bd D es
  hx : Txt w B n bs
  hB : B < bd
  hbd : bd ≤ base
  hbase : base ≤ O
  hn : n ≤ 16383
  hcap : n ≤ cap
  hbu : Built bs n es
  hk : k < es.length
  hq : (at_ es k).en = q
  hql : q < es.length
  hch : Chain bs n es k (k + 1) js q
  hfirst : first ≤ 8191
  c0 : w.cell? ⟨O, 0, none⟩ = some kv
  c1 : w.cell? ⟨O, 1, none⟩ = some ov
  c2 : w.cell? ⟨O, 2, none⟩ = some (.slice none 0 0)
  fz : ∀ o, w.frozen? ⟨O, o, none⟩ = false
  rk : w.ownsRow base 78 4 kv first ks
  ro : w.ownsRow base 36 1 ov first os_
  nk : kv.ownBlock ≠ some O
  no : ov.ownBlock ≠ some O
  nko : kv.ownBlock = none ∨ kv.ownBlock ≠ ov.ownBlock
  kept : Fresh w O

theorem AddEnv.lt {w : World} {base bd O D B n cap k first q : Nat} {bs : Nat → Nat} {es : List Ent} {js : List Nat} {kv ov : Value} {ks os_ : List Value} (h : AddEnv w base bd O D B n cap k first q bs es js kv ov ks os_) : O < w.heap.size := World.block_lt_of_cell? _ _ h.c0

theorem AddEnv.below {w w' : World} {base bd O D B n cap k first q : Nat} {bs : Nat → Nat} {es : List Ent} {js : List Nat} {kv ov : Value} {ks os_ : List Value} (h : AddEnv w base bd O D B n cap k first q bs es js kv ov ks os_) (hb : Below w.heap.size w w') :
    AddEnv w' base bd O D B n cap k first q bs es js kv ov ks os_ := by
  have hO := h.lt
  have h1 := h.hbd
  have h2 := h.hbase
  have h3 := h.hB
  exact ⟨h.hT.below (hb.mono (by omega)), h.hx.below hb (by omega), h.hB, h.hbd, h.hbase, h.hn, h.hcap, h.hbu, h.hk, h.hq, h.hql, h.hch, h.hfirst, (hb.cell (p := ⟨O, 0, none⟩) hO).trans h.c0, (hb.cell (p := ⟨O, 1, none⟩) hO).trans h.c1, (hb.cell (p := ⟨O, 2, none⟩) hO).trans h.c2,
    fun o => (hb.frozen (p := ⟨O, o, none⟩) hO).trans (h.fz o), ownsRow_below h.rk hb, ownsRow_below h.ro hb, h.nk, h.no, h.nko, fun s hs => ⟨(hb.cell (p := ⟨O, 3 + s * 2, none⟩) hO).trans (h.kept s hs).1, (hb.cell (p := ⟨O, 3 + s * 2 + 1, none⟩) hO).trans (h.kept s hs).2⟩⟩

/-- What add leaves: the names in order, or a refusal and all as before. -/
def AddGives (w : World) (base O first : Nat) (us : Nat → List Nat) (bs : Nat → Nat) (es : List Ent) (js : List Nat) (e : Ending) (w' : World) : Prop :=
  Below base w w' ∧ ((e = .returned (.tuple #[.agg #[.int .i32 (first : Int), .int .i32 0], .nilIface]) ∧ ∃ od fk fo, StrictP us od ∧ od.Perm (List.range js.length) ∧ NR w' w'.heap.size O (first + js.length) fk fo ∧ (∀ i, i < js.length → fo (first + i) = od.getD i 0) ∧
        (∀ i f, i < js.length → f < 4 → fk (first + i) f = intOf ((keyE bs es (js.getD i 0)).getD f .nilIface))) ∨
    ((∃ a, e = .returned (.tuple #[.agg #[.int .i32 0, .int .i32 0], .iface 149 (.pointer (some a))])) ∧ (∃ x y, x < js.length ∧ y < js.length ∧ x ≠ y ∧ cmpU (us x) (us y) = 0) ∧ ∃ fk fo, NR w' w'.heap.size O first fk fo))

/-- A row that is not empty lies in a block. -/
theorem own_slice {w : World} {base : Nat} {e : TypeId} {sz : Nat} {v : Value} {n : Nat} {xs : List Value} (h : w.ownsRow base e sz v n xs) (hn : 0 < n) : ∃ g c, v = .slice (some ⟨g, 0, none⟩) n c := by
  rcases h.2 with ⟨_, h1, _⟩ | ⟨g, cap, cur, h1, _⟩
  · omega
  · exact ⟨g, cap, h1⟩

/-- The cells of a row. -/
theorem row_at {w : World} {base : Nat} {e : TypeId} {sz g n cap : Nat} {xs : List Value} (h : w.ownsRow base e sz (.slice (some ⟨g, 0, none⟩) n cap) n xs) (j : Nat) (hj : j < n * sz) : w.cell? ⟨g, j, none⟩ = some (xs.getD j .nilIface) ∧ w.frozen? ⟨g, j, none⟩ = false := by
  obtain ⟨cur, h1, h2, h3, h4, h5, h6⟩ := row_obj h
  have hle : n * sz ≤ cap * sz := Nat.mul_le_mul_right _ h3
  have hj' : j < cur.size := by omega
  refine ⟨?_, by simp [World.frozen?, h2]⟩
  have e1 : xs[j]? = cur[j]? := by
    rw [← h6, List.getElem?_take_of_lt hj]
    simp
  rw [List.getD_eq_getElem?_getD, e1]
  simp only [World.cell?, h2]
  simp [hj']

theorem keyE_length (bs : Nat → Nat) (es : List Ent) (j : Nat) : (keyE bs es j).length = 4 := rfl

theorem keysOf_getD (bs : Nat → Nat) (es : List Ent) : ∀ (js : List Nat) (i f : Nat), i < js.length → f < 4 → (keysOf bs es js).getD (i * 4 + f) .nilIface = (keyE bs es (js.getD i 0)).getD f .nilIface
  | [], i, f, hi, _ => by simp at hi
  | j :: js, 0, f, _, hf => by
    show ((keyE bs es j) ++ keysOf bs es js).getD (0 * 4 + f) _ = _
    rw [List.getD_eq_getElem?_getD, List.getElem?_append_left (by rw [keyE_length]; omega)]
    simp [List.getD_eq_getElem?_getD]
  | j :: js, i + 1, f, hi, hf => by
    show ((keyE bs es j) ++ keysOf bs es js).getD ((i + 1) * 4 + f) _ = _
    rw [List.getD_eq_getElem?_getD, List.getElem?_append_right (by rw [keyE_length]; omega), keyE_length, show (i + 1) * 4 + f - 4 = i * 4 + f by omega, ← List.getD_eq_getElem?_getD]
    rw [keysOf_getD bs es js i f (by simpa using hi) hf]
    rfl

theorem ordOf_getD (bs : Nat → Nat) (es : List Ent) (js : List Nat) (i : Nat) (hi : i < js.length) : (ordOf bs es js).getD i .nilIface = .int .u64 ((ldE bs es (js.getD i 0) * 65536 + i : Nat) : Int) := by
  unfold ordOf
  rw [List.getD_eq_getElem?_getD, List.getElem?_mapIdx, List.getElem?_eq_getElem hi]
  simp [List.getD_eq_getElem?_getD, List.getElem?_eq_getElem hi]

theorem keysOf_length (bs : Nat → Nat) (es : List Ent) : ∀ js : List Nat, (keysOf bs es js).length = js.length * 4
  | [] => rfl
  | j :: js => by
    show ((keyE bs es j) ++ keysOf bs es js).length = _
    rw [List.length_append, keyE_length, keysOf_length bs es js]
    simp; omega

theorem getD_append_right {α : Type} (a b : List α) (i : Nat) (d : α) : (a ++ b).getD (a.length + i) d = b.getD i d := by
  rw [List.getD_eq_getElem?_getD, List.getElem?_append_right (by omega), List.getD_eq_getElem?_getD]
  simp

end Go.Proofs.Qxb6616638aGreatFmt
