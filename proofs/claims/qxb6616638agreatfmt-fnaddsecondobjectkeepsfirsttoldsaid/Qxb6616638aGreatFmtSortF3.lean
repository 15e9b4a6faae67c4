/-
  slices.SortFunc under sortNames' comparison: the contract over plain lists, closed.
-/
import Derived.Test.Qxb6616638aGreatFmtSortF2
namespace Go.Proofs.Qxb6616638aGreatFmt
open Go.RowKit Go.Lib Go.Shelf
open Go.Sort (grow putRow Holds SWO PermIn SortedIn)
open Plain
set_option linter.unusedVariables false
set_option maxRecDepth 100000

variable {w : World}

/-- Places as members of 'Fin m'. -/
def fins (m : Nat) (is : List Nat) (h : ∀ i ∈ is, i < m) : List (Fin m) := is.attach.map (fun i => ⟨i.val, h i.val i.property⟩)
theorem fins_val (m : Nat) (is : List Nat) (h : ∀ i ∈ is, i < m) : (fins m is h).map (fun x => x.val) = is := by
  unfold fins
  rw [List.map_map]
  exact List.attach_map_subtype_val is

theorem sortFunc_any {bd bo bb bk O B n cap gk at' : Nat} {bs : Nat → Nat} {es : List Ent} {js : List Nat} {lsE : Nat → List Nat} {k : Nat} (go off c : Nat) (is : List Nat) (h : CmpEnv w bd bo bb bk O B n cap gk at' bs es js) (ho : Objt bs n es lsE k js)
    (his : ∀ i ∈ is, i < js.length) (h0 : 0 < js.length) (hgo : go < w.heap.size) (h1 : bo ≠ go) (h2 : bb ≠ go) (h3 : bk ≠ go) (h4 : gk ≠ go) (h5 : B ≠ go)
    (hrow : ∀ i, i < is.length → w.cell? ⟨go, off + i, none⟩ = some (.int .u64 (is.getD i 0 : Nat)) ∧ w.frozen? ⟨go, off + i, none⟩ = false) (hlen : is.length ≤ 20000) :
    Calls Tryz.prog 50 #[.slice (some ⟨go, off, none⟩) is.length c, .func (.func 51) #[] #[.pointer (some ⟨bo, 0, none⟩), .pointer (some ⟨bb, 0, none⟩), .pointer (some ⟨bk, 0, none⟩)]] w fun e w' => e = .returned (.tuple #[]) ∧
      ∃ is' : List Nat, is'.Perm is ∧ SortedP (fun i => uOf bs es lsE (js.getD i 0)) is' ∧ Turn w w' go off is.length (fun i => .int .u64 (is'.getD i 0 : Nat)) := by
  haveI : Inhabited (Fin js.length) := ⟨⟨0, h0⟩⟩
  let enc : Fin js.length → Value := fun x => .int .u64 (x.val : Int)
  let cf : Fin js.length → Fin js.length → Int := fun x y => cmpU (uOf bs es lsE (js.getD x.val 0)) (uOf bs es lsE (js.getD y.val 0))
  obtain ⟨d, hd⟩ : ∃ d : Array (Fin js.length), d = (fins js.length is his).toArray := ⟨_, rfl⟩
  have hds : d.size = is.length := by rw [hd]; simp [fins]
  have hdv : ∀ i, i < is.length → (d[i]!).val = is.getD i 0 := by
    intro i hi
    rw [getElem!_pos d i (by omega)]
    subst hd
    simp [fins, List.getD_eq_getElem?_getD, hi]
  have hH : Holds enc w go off d := by
    intro j hj
    have hj' : j < is.length := by omega
    refine ⟨?_, (hrow j hj').2⟩
    rw [(hrow j hj').1]
    show _ = some (Value.int .u64 ((d[j]!).val : Int))
    rw [hdv j hj']
  have hcmp : CmpLays1 Tryz.prog 51 #[.pointer (some ⟨bo, 0, none⟩), .pointer (some ⟨bb, 0, none⟩), .pointer (some ⟨bk, 0, none⟩)] enc cf go off d.size w := by
    intro m os dk hdk x y
    have hc := cmp_any bd bo bb bk O B n cap gk at' bs es js x.val y.val (h.but (but_sort enc w go off m dk os) h1 h2 h3 h4 h5) x.isLt y.isLt
    rw [nm_cmp ho x.isLt y.isLt] at hc
    exact hc
  have eg : ∀ args w, (callFunc 51 args).run Tryz.prog w = .ok (.enter 51 args) w := enters_of Tryz.func51 (by kernel_rfl) rfl
  have hs := Any.slices_SortFunc Tryz.laysSlF6_f50 enc (by intro x; rfl) cf (swo_cmpU _) 51 #[.pointer (some ⟨bo, 0, none⟩), .pointer (some ⟨bb, 0, none⟩), .pointer (some ⟨bk, 0, none⟩)] go off c d w eg hcmp hH hgo (by omega)
  rw [hds] at hs
  refine hs.mono ?_
  rintro e w' ⟨rfl, d', m, os, hp, hso, rfl⟩
  obtain ⟨p1, p2, p3⟩ := hp
  refine ⟨rfl, d'.toList.map (fun x => x.val), ?_, ?_, ?_⟩
  · have q : d'.toList.Perm d.toList := by
      have e1 : d'.extract 0 is.length = d' := by rw [← hds, ← p1]; simp
      have e2 : d.extract 0 is.length = d := by rw [← hds]; simp
      rw [e1, e2] at p3
      exact p3
    have := q.map (fun x => x.val)
    rw [hd] at this
    simpa [fins_val] using this
  · unfold SortedP
    rw [List.pairwise_map, List.pairwise_iff_getElem]
    intro i j hi hj hij
    have hi' : i < d'.size := by simpa using hi
    have hj' : j < d'.size := by simpa using hj
    have := hso i j (Nat.zero_le _) hij (by omega)
    rw [getElem!_pos d' i hi', getElem!_pos d' j hj'] at this
    simp only [ltOf, decide_eq_false_iff_not] at this
    have hneg := cmpU_neg (uOf bs es lsE (js.getD (d'[i]).val 0)) (uOf bs es lsE (js.getD (d'[j]).val 0))
    have this' : ¬ cmpU (uOf bs es lsE (js.getD (d'[j]).val 0)) (uOf bs es lsE (js.getD (d'[i]).val 0)) < 0 := this
    simp only [Array.getElem_toList]
    omega
  · have t := turn_sort enc w go off m d d' os hH p1 hgo
    have hsz : d'.size = is.length := by omega
    rw [hsz] at t
    refine ⟨t.but, fun i hi => ?_, t.out, t.free, t.shape⟩
    refine (t.cell i hi).trans ?_
    show some (Value.int .u64 ((d'[i]!).val : Int)) = _
    rw [getElem!_pos d' i (by omega)]
    simp [List.getD_eq_getElem?_getD, show i < d'.size by omega]

end Go.Proofs.Qxb6616638aGreatFmt
