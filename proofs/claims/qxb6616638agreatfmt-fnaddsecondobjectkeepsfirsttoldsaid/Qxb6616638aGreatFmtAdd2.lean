/-
  The row of the order while add works on it; what is left at the end.
-/
import Derived.Test.Qxb6616638aGreatFmtAdd1
import Derived.Test.Qxb6616638aGreatFmtSuNil
namespace Go.Proofs.Qxb6616638aGreatFmt
open Go.RowKit
open Plain
set_option linter.unusedVariables false
set_option maxRecDepth 100000

theorem But.trans {w w' w'' : World} {G : Nat} (h : But w w' G) (k : But w' w'' G) : But w w'' G :=
  ⟨k.os.trans h.os, k.tape.trans h.tape, k.output.trans h.output, Nat.le_trans h.size k.size, fun i hi hne => (k.block i (Nat.lt_of_lt_of_le hi h.size) hne).trans (h.block i hi hne)⟩
theorem But.frozen {w w' : World} {G : Nat} (h : But w w' G) {b o : Nat} (hb : b < w.heap.size) (hne : b ≠ G) : w'.frozen? ⟨b, o, none⟩ = w.frozen? ⟨b, o, none⟩ := by
  have e := h.block b hb hne
  simp only [World.frozen?, e]
theorem But.after {w w' w'' : World} {G : Nat} (h : But w w' G) (hb : Below w'.heap.size w' w'') : But w w'' G :=
  ⟨hb.os.trans h.os, hb.tape.trans h.tape, hb.output.trans h.output, Nat.le_trans h.size hb.size, fun k hk hne => (hb.block k (Nat.lt_of_lt_of_le hk h.size)).trans (h.block k hk hne)⟩
theorem But.below {w w' : World} {G base : Nat} (h : But w w' G) (h1 : base ≤ G) (h2 : base ≤ w.heap.size) : Below base w w' :=
  ⟨h.os, h.tape, h.output, h.size, fun k hk => h.block k (by omega) (by omega)⟩

structure OrdSt (w1 wr : World) (go first N : Nat) (fo : Nat → Nat) : Prop where
  but : But w1 wr go
  lt : go < w1.heap.size
  cell : ∀ i, i < N → wr.cell? ⟨go, first + i, none⟩ = some (.int .u64 (fo i : Nat))
  free : ∀ o, wr.frozen? ⟨go, o, none⟩ = w1.frozen? ⟨go, o, none⟩
  out : ∀ o, o < first ∨ first + N ≤ o → wr.cell? ⟨go, o, none⟩ = w1.cell? ⟨go, o, none⟩

variable {w w1 wr : World} {go first N : Nat} {fo : Nat → Nat}

theorem OrdSt.congr {fo' : Nat → Nat} (h : OrdSt w1 wr go first N fo) (e : ∀ i, i < N → fo i = fo' i) : OrdSt w1 wr go first N fo' :=
  ⟨h.but, h.lt, fun i hi => by rw [h.cell i hi, e i hi], h.free, h.out⟩

theorem OrdSt.after {wx : World} (h : OrdSt w1 wr go first N fo) (hb : Below wr.heap.size wr wx) : OrdSt w1 wx go first N fo := by
  have hg : go < wr.heap.size := Nat.lt_of_lt_of_le h.lt h.but.size
  exact ⟨h.but.after hb, h.lt, fun i hi => (hb.cell (p := ⟨go, first + i, none⟩) hg).trans (h.cell i hi), fun o => (hb.frozen (p := ⟨go, o, none⟩) hg).trans (h.free o), fun o ho => (hb.cell (p := ⟨go, o, none⟩) hg).trans (h.out o ho)⟩

theorem OrdSt.set (h : OrdSt w1 wr go first N fo) {i : Nat} (hi : i < N) (v : Nat) : OrdSt w1 (wr.setCell ⟨go, first + i, none⟩ (.int .u64 (v : Int))) go first N (fun j => if j = i then v else fo j) := by
  refine ⟨h.but.trans ⟨rfl, rfl, rfl, by simp, fun k hk hne => Below.heap_setCell wr _ _ k hne⟩, h.lt, fun j hj => ?_, fun o => by rw [World.frozen?_setCell]; exact h.free o, fun o ho => ?_⟩
  · by_cases e : j = i
    · subst e
      rw [if_pos rfl]
      exact set_same (h.cell j hi)
    · rw [if_neg e, set_other (.inr (by omega))]
      exact h.cell j hj
  · rw [set_other (.inr (by omega))]
    exact h.out o ho

theorem OrdSt.turn {wx : World} {n m : Nat} {is : List Nat} (h : OrdSt w1 wr go first N fo) (ht : Turn wr wx go (first + n) (m - n) (fun i => .int .u64 (is.getD i 0 : Nat))) (hn : n ≤ m) (hm : m ≤ N) : OrdSt w1 wx go first N (paste n m is fo) := by
  refine ⟨h.but.trans ht.but, h.lt, fun i hi => ?_, fun o => (ht.free o).trans (h.free o), fun o ho => (ht.out o (by omega)).trans (h.out o ho)⟩
  unfold paste
  by_cases e : n ≤ i ∧ i < m
  · rw [if_pos e]
    have := ht.cell (i - n) (by omega)
    rw [show first + n + (i - n) = first + i by omega] at this
    exact this
  · rw [if_neg e, ht.out (first + i) (by omega)]
    exact h.cell i hi

theorem OrdSt.turnf {wx : World} {sv : Nat → Nat} (h : OrdSt w1 wr go first N fo) (ht : Turn wr wx go first N (fun i => .int .u64 (sv i : Nat))) : OrdSt w1 wx go first N sv :=
  ⟨h.but.trans ht.but, h.lt, fun i hi => ht.cell i hi, fun o => (ht.free o).trans (h.free o), fun o ho => (ht.out o ho).trans (h.out o ho)⟩

section
variable {base O B n cap gk ck co b8 b10 : Nat} {bs : Nat → Nat} {es : List Ent} {js : List Nat} {ks os_ : List Value}

theorem AM1.start (h : AM1 w w1 base O B n cap first gk go ck co b8 b10 bs es js ks os_) (hos : os_.length = first) : OrdSt w1 w1 go first js.length (fun i => ldE bs es (js.getD i 0) * 65536 + i) := by
  refine ⟨⟨rfl, rfl, rfl, Nat.le_refl _, fun _ _ _ => rfl⟩, h.lt.2.2.2.1, fun i hi => ?_, fun _ => rfl, fun _ _ => rfl⟩
  have := (row_at h.ro (first + i) (by omega)).1
  rw [← hos, getD_append_right, ordOf_getD _ _ _ _ hi] at this
  rw [← hos]
  exact this

theorem AM1.free (h : AM1 w w1 base O B n cap first gk go ck co b8 b10 bs es js ks os_) (o : Nat) (ho : o < first + js.length) : w1.frozen? ⟨go, o, none⟩ = false := (row_at h.ro o (by omega)).2

theorem AM1.env (h : AM1 w w1 base O B n cap first gk go ck co b8 b10 bs es js ks os_) (hks : ks.length = first * 4) (hnm : ∀ i, i < js.length → fr es (js.getD i 0) ≤ to es (js.getD i 0) ∧ to es (js.getD i 0) < n) (hn : n ≤ 16383) (hcap : n ≤ cap) (hjs : js.length ≤ 16383) : KeyEnv w1 B n cap gk first bs es js := by
  have key : ∀ i f, i < js.length → f < 4 → w1.cell? ⟨gk, first * 4 + i * 4 + f, none⟩ = some ((keyE bs es (js.getD i 0)).getD f .nilIface) := by
    intro i f hi hf
    have := (row_at h.rk (first * 4 + (i * 4 + f)) (by omega)).1
    rw [← hks, getD_append_right, keysOf_getD _ _ _ _ _ hi hf, hks] at this
    rw [Nat.add_assoc]
    exact this
  exact ⟨h.lt.2.2.2.2.2, h.lt.2.2.1, h.txt, fun i hi => ⟨key i 0 hi (by omega), key i 1 hi (by omega), key i 2 hi (by omega), key i 3 hi (by omega)⟩, hnm, hn, hcap, hjs⟩

/-- Names as they are read at the end. -/
theorem AM1.nr (h : AM1 w w1 base O B n cap first gk go ck co b8 b10 bs es js ks os_) (hks : ks.length = first * 4) (hkz : ∀ v ∈ ks, ∃ z, v = .int .i32 z) (hos : os_.length = first) (hoz : ∀ v ∈ os_, ∃ z : Nat, v = .int .u64 (z : Int)) {wf : World} (hj : 0 < js.length)
    (e0 : wf.cell? ⟨O, 0, none⟩ = some (.slice (some ⟨gk, 0, none⟩) (first + js.length) ck)) (e1 : wf.cell? ⟨O, 1, none⟩ = some (.slice (some ⟨go, 0, none⟩) (first + js.length) co)) (hgk : ∀ o, wf.cell? ⟨gk, o, none⟩ = w1.cell? ⟨gk, o, none⟩) (hgo : ∀ i, i < js.length → wf.cell? ⟨go, first + i, none⟩ = some (.int .u64 (fo i : Nat)))
    (hout : ∀ o, o < first → wf.cell? ⟨go, o, none⟩ = w1.cell? ⟨go, o, none⟩) (hs : w1.heap.size ≤ wf.heap.size) :
    ∃ fk fo', NR wf wf.heap.size O (first + js.length) fk fo' ∧ (∀ i, i < js.length → fo' (first + i) = fo i) ∧ ∀ i f, i < js.length → f < 4 → fk (first + i) f = intOf ((keyE bs es (js.getD i 0)).getD f .nilIface) := by
  have lk := h.lt
  have isint : ∀ v ∈ ks ++ keysOf bs es js, ∃ z, v = Value.int .i32 z := by
    intro v hv
    rcases List.mem_append.1 hv with hv | hv
    · exact hkz v hv
    · obtain ⟨j, _, hv⟩ := List.mem_flatMap.1 hv
      simp only [keyE, List.mem_cons, List.not_mem_nil, or_false] at hv
      rcases hv with rfl | rfl | rfl | rfl <;> exact ⟨_, rfl⟩
  have hlen : (ks ++ keysOf bs es js).length = (first + js.length) * 4 := by rw [List.length_append, hks, keysOf_length]; omega
  refine ⟨fun i f => intOf ((ks ++ keysOf bs es js).getD (i * 4 + f) .nilIface), fun i => if i < first then (intOf (os_.getD i .nilIface)).toNat else fo (i - first), ⟨by omega, ⟨_, ck, gk, e0, fun _ => ⟨rfl, by omega⟩, fun i f hi hf => ?_⟩, ⟨_, co, e1, ?_⟩⟩, fun i hi => by show (if first + i < first then _ else _) = _; rw [if_neg (by omega), show first + i - first = i by omega], fun i f hi hf => ?_⟩
  · have hc := (row_at h.rk (i * 4 + f) (by omega)).1
    rw [hgk, hc]
    have hm : (ks ++ keysOf bs es js).getD (i * 4 + f) .nilIface ∈ ks ++ keysOf bs es js := by
      rw [List.getD_eq_getElem?_getD, List.getElem?_eq_getElem (by omega)]
      simp
    obtain ⟨z, hz⟩ := isint _ hm
    rw [hz]
    rfl
  · refine ⟨_, co, go, rfl, fun _ => ⟨rfl, by omega⟩, fun i hi => ?_⟩
    show _ = some (Value.int .u64 ((if i < first then (intOf (os_.getD i .nilIface)).toNat else fo (i - first) : Nat) : Int))
    by_cases e : i < first
    · rw [if_pos e, hout i e, (row_at h.ro i (by omega)).1]
      have e2 : (os_ ++ ordOf bs es js).getD i .nilIface = os_.getD i .nilIface := by
        rw [List.getD_eq_getElem?_getD, List.getElem?_append_left (by omega), List.getD_eq_getElem?_getD]
      rw [e2]
      have hm : os_.getD i .nilIface ∈ os_ := by
        rw [List.getD_eq_getElem?_getD, List.getElem?_eq_getElem (by omega)]
        simp
      obtain ⟨z, hz⟩ := hoz _ hm
      rw [hz]
      simp [intOf]
    · rw [if_neg e]
      have := hgo (i - first) (by omega)
      rw [show first + (i - first) = i by omega] at this
      exact this
  · show intOf ((ks ++ keysOf bs es js).getD ((first + i) * 4 + f) .nilIface) = _
    rw [show (first + i) * 4 + f = ks.length + (i * 4 + f) by omega, getD_append_right, keysOf_getD _ _ _ _ _ hi hf]

end

theorem sortU_any (c : Nat) (h : OrdSt w1 wr go first N fo) (hfz : ∀ i, i < N → w1.frozen? ⟨go, first + i, none⟩ = false) (hN : N ≤ 65536) :
    Calls Tryz.prog 34 #[.slice (some ⟨go, first, none⟩) N c] wr fun e w' => e = .returned (.tuple #[]) ∧ ∃ sv : Nat → Nat, ((List.range N).map sv).Perm ((List.range N).map fo) ∧ (∀ i j, i ≤ j → j < N → sv i ≤ sv j) ∧ Turn wr w' go first N (fun i => .int .u64 (sv i : Nat)) := by
  have hg : go < wr.heap.size := Nat.lt_of_lt_of_le h.lt h.but.size
  obtain ⟨zs, hzs⟩ : ∃ zs : List Int, zs = (List.range N).map (fun i => ((fo i : Nat) : Int)) := ⟨_, rfl⟩
  have hl : zs.length = N := by rw [hzs]; simp
  have hget : ∀ i, i < N → zs[i]? = some ((fo i : Nat) : Int) := by intro i hi; rw [hzs]; simp [hi]
  have hH : Go.Sort.Holds (Value.int .u64) wr go first zs.toArray := by
    intro j hj
    have hj' : j < N := by simpa [hl] using hj
    refine ⟨?_, (h.free _).trans (hfz j hj')⟩
    rw [h.cell j hj']
    have := hget j hj'
    simp [hl, hj'] at this ⊢
    rw [← this]
  have hs := Su.slices_Sort go first c zs wr hH hg (by omega)
  rw [hl] at hs
  refine hs.mono ?_
  rintro e w' ⟨rfl, m, os, rfl⟩
  obtain ⟨ms, hms⟩ : ∃ ms, ms = zs.mergeSort (fun x y => decide (x ≤ y)) := ⟨_, rfl⟩
  have hmp : ms.Perm zs := by rw [hms]; exact List.mergeSort_perm _ _
  have hml : ms.length = N := by rw [hmp.length_eq, hl]
  have hmo : ms.Pairwise (fun a b => a ≤ b) := by
    rw [hms]
    have := List.pairwise_mergeSort (le := fun (x y : Int) => decide (x ≤ y)) (fun a b c h1 h2 => by simp at *; omega) (fun a b => by simp; omega) zs
    exact this.imp (fun h => by simpa using h)
  have hnn : ∀ i, i < N → ∃ t : Nat, ms[i]? = some (t : Int) := by
    intro i hi
    have hm : ∀ x ∈ ms, ∃ t, x = ((fo t : Nat) : Int) := by
      intro x hx
      have hx' := hmp.mem_iff.1 hx
      rw [hzs] at hx'
      obtain ⟨t, _, e⟩ := List.mem_map.1 hx'
      exact ⟨t, e.symm⟩
    obtain ⟨t, e⟩ := hm _ (List.getElem_mem (show i < ms.length by omega))
    exact ⟨fo t, by rw [List.getElem?_eq_getElem (by omega), e]⟩
  refine ⟨rfl, fun i => (ms.getD i 0).toNat, ?_, fun i j hij hj => ?_, ?_⟩
  · have e1 : (List.range N).map (fun i => (ms.getD i 0).toNat) = ms.map Int.toNat := by
      apply List.ext_getElem
      · simp [hml]
      · intro i h1 h2
        simp at h1
        simp [List.getD_eq_getElem?_getD, List.getElem?_eq_getElem (show i < ms.length by omega)]
    have e2 : (List.range N).map fo = zs.map Int.toNat := by
      rw [hzs, List.map_map]
      apply List.map_congr_left
      intro i _
      simp
    rw [e1, e2]
    exact hmp.map _
  · rcases Nat.lt_or_eq_of_le hij with hlt | rfl
    · have := List.pairwise_iff_getElem.1 hmo i j (by omega) (by omega) hlt
      simp only [List.getD_eq_getElem?_getD, List.getElem?_eq_getElem (show i < ms.length by omega), List.getElem?_eq_getElem (show j < ms.length by omega), Option.getD_some]
      omega
    · exact Nat.le_refl _
  · have ht := turn_sort (Value.int .u64) wr go first m zs.toArray ms.toArray os hH (by simp [hml, hl]) hg
    rw [← hms]
    have hz : ms.toArray.size = N := by simp [hml]
    rw [hz] at ht
    refine ⟨ht.but, fun i hi => (ht.cell i hi).trans ?_, ht.out, ht.free, ht.shape⟩
    obtain ⟨t, e⟩ := hnn i hi
    have e3 : ms.getD i 0 = (t : Int) := by rw [List.getD_eq_getElem?_getD, e]; rfl
    have e4 : ms.toArray[i]! = (t : Int) := by
      rw [getElem!_pos ms.toArray i (by simp [hml, hi])]
      rw [List.getElem?_eq_some_iff] at e
      obtain ⟨_, e⟩ := e
      simpa using e
    show some (Value.int .u64 ms.toArray[i]!) = some (Value.int .u64 (((ms.getD i 0).toNat : Nat) : Int))
    rw [e3, e4]
    rfl

end Go.Proofs.Qxb6616638aGreatFmt
