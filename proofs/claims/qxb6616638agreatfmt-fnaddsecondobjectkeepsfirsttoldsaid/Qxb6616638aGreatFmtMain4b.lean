/-
  Statement 4: the steps of the law, each as one contract over the law's state.
-/
import Derived.Test.Qxb6616638aGreatFmtMain4a
namespace Go.Proofs.Qxb6616638aGreatFmt.Two
open Go.Proofs.Qxb6616638aGreatFmt
open Go.RowKit
open Go.Extern.Stop Go.Stop Go.Extern
open Plain
set_option linter.unusedVariables false
set_option maxRecDepth 100000

/-- The rows' kinds and lengths. -/
structure KZ (ks os_ : List Value) (first : Nat) : Prop where
  lk : ks.length = first * 4
  lo : os_.length = first
  kz : ∀ v ∈ ks, ∃ z, v = .int .i32 z
  oz : ∀ v ∈ os_, ∃ z : Nat, v = .int .u64 (z : Int)

theorem KZ.nil : KZ [] [] 0 := ⟨rfl, rfl, fun v hv => (by cases hv), fun v hv => (by cases hv)⟩

theorem KZ.add {bs : Nat → Nat} {es : List Ent} {js od : List Nat} {ks os_ : List Value} {first : Nat} (h : KZ ks os_ first) (hP : od.Perm (List.range js.length)) : KZ (ks ++ keysOf bs es js) (os_ ++ ordV od) (first + js.length) := by
  refine ⟨by rw [List.length_append, h.lk, keysOf_length]; omega, by rw [List.length_append, h.lo]; unfold ordV; rw [List.length_map, hP.length_eq, List.length_range], fun v hv => ?_, fun v hv => ?_⟩
  · rcases List.mem_append.1 hv with hv | hv
    · exact h.kz v hv
    · obtain ⟨j, _, hv⟩ := List.mem_flatMap.1 hv
      simp only [keyE, List.mem_cons, List.not_mem_nil, or_false] at hv
      rcases hv with rfl | rfl | rfl | rfl <;> exact ⟨_, rfl⟩
  · rcases List.mem_append.1 hv with hv | hv
    · exact h.oz v hv
    · obtain ⟨j, _, rfl⟩ := List.mem_map.1 hv
      exact ⟨j, rfl⟩

def fkOf (ks : List Value) (i f : Nat) : Int := intOf (ks.getD (i * 4 + f) .nilIface)
def foOf (os_ : List Value) (i : Nat) : Nat := (intOf (os_.getD i .nilIface)).toNat

theorem getD_append_left {α : Type} (a b : List α) (i : Nat) (d : α) (h : i < a.length) : (a ++ b).getD i d = a.getD i d := by
  rw [List.getD_eq_getElem?_getD, List.getElem?_append_left h, List.getD_eq_getElem?_getD]

theorem fk_mid {bs : Nat → Nat} {es : List Ent} {js : List Nat} {L ks X : List Value} {first i f : Nat} (hL : L = ks ++ (keysOf bs es js ++ X)) (h : ks.length = first * 4) (hi : i < js.length) (hf : f < 4) : fkOf L (first + i) f = intOf ((keyE bs es (js.getD i 0)).getD f .nilIface) := by
  unfold fkOf
  rw [hL, show (first + i) * 4 + f = ks.length + (i * 4 + f) by omega, getD_append_right, getD_append_left _ _ _ _ (by rw [keysOf_length]; omega), keysOf_getD _ _ _ _ _ hi hf]

theorem fo_mid {od : List Nat} {L os_ Y : List Value} {first i : Nat} (hL : L = os_ ++ (ordV od ++ Y)) (h : os_.length = first) (hi : i < od.length) : foOf L (first + i) = od.getD i 0 := by
  unfold foOf
  rw [hL, ← h, getD_append_right, getD_append_left _ _ _ _ (by unfold ordV; rw [List.length_map]; exact hi)]
  unfold ordV
  rw [List.getD_eq_getElem?_getD, List.getElem?_map, List.getElem?_eq_getElem hi, List.getD_eq_getElem?_getD, List.getElem?_eq_getElem hi]
  simp [intOf]

/-- A Names' rows, wherever they lie. -/
def NS (w : World) (base O first : Nat) (ks os_ : List Value) : Prop := (∃ kv ov, NSt w base O first kv ov ks os_) ∧ KZ ks os_ first
/-- The same, and the kept orders in shape. -/
def NSS (w : World) (base O first : Nat) (ks os_ : List Value) : Prop := (∃ kv ov, NSt w base O first kv ov ks os_ ∧ Slots w base O kv ov) ∧ KZ ks os_ first

theorem NSS.ns {w : World} {base O first : Nat} {ks os_ : List Value} (h : NSS w base O first ks os_) : NS w base O first ks os_ := by
  obtain ⟨⟨kv, ov, h1, _⟩, h2⟩ := h
  exact ⟨⟨kv, ov, h1⟩, h2⟩

theorem NS.below {w w' : World} {base O first : Nat} {ks os_ : List Value} (h : NS w base O first ks os_) (hb : Below w.heap.size w w') : NS w' base O first ks os_ := by
  obtain ⟨⟨kv, ov, h1⟩, h2⟩ := h
  exact ⟨⟨kv, ov, h1.below hb⟩, h2⟩

theorem NSS.below {w w' : World} {base O first : Nat} {ks os_ : List Value} (h : NSS w base O first ks os_) (hb : Below w.heap.size w w') : NSS w' base O first ks os_ := by
  obtain ⟨⟨kv, ov, h1, h2⟩, h3⟩ := h
  exact ⟨⟨kv, ov, h1.below hb, h2.below (World.block_lt_of_cell? _ _ h1.c0) hb⟩, h3⟩

theorem NS.nr {w : World} {base O nk : Nat} {ks os_ : List Value} (h : NS w base O nk ks os_) : NR w w.heap.size O nk (fkOf ks) (foOf os_) := by
  obtain ⟨⟨kv, ov, h1⟩, h2⟩ := h
  exact h1.nr h2.kz h2.oz

/-- The law's state: text, tape, copy, what was there before. -/
structure Law (F : Interp) (w wi : World) (bd O D B n T : Nat) (A : Nat → Nat) (es : List Ent) (g cp : Nat → Nat) : Prop where
  txt : TxtEnv wi O D B n n A es
  env : Env wi bd B n n T A es g cp
  out : Below w.heap.size w wi
  ans : F.answers wi.tape
  hO : O ≤ wi.heap.size
  hbd : bd ≤ O
  hw : w.heap.size ≤ bd

theorem Law.below {F : Interp} {w wi wj : World} {bd O D B n T : Nat} {A : Nat → Nat} {es : List Ent} {g cp : Nat → Nat} (h : Law F w wi bd O D B n T A es g cp) (hb : Below O wi wj) : Law F w wj bd O D B n T A es g cp :=
  ⟨h.txt.below hb, h.env.below (hb.mono h.hbd), h.out.trans (hb.mono (Nat.le_trans h.hw h.hbd)), by rw [hb.tape]; exact h.ans, Nat.le_trans h.hO hb.size, h.hbd, h.hw⟩

theorem Law.belowH {F : Interp} {w wi wj : World} {bd O D B n T : Nat} {A : Nat → Nat} {es : List Ent} {g cp : Nat → Nat} (h : Law F w wi bd O D B n T A es g cp) (hb : Below wi.heap.size wi wj) : Law F w wj bd O D B n T A es g cp := h.below (hb.mono h.hO)

/-- Object k, its members js. -/
structure Ob (bs : Nat → Nat) (n : Nat) (es : List Ent) (lsE : Nat → List Nat) (k : Nat) (js : List Nat) : Prop where
  ob : Objt bs n es lsE k js
  ch : Chain bs n es k (k + 1) js (at_ es k).en

theorem Ob.len {bs : Nat → Nat} {n : Nat} {es : List Ent} {lsE : Nat → List Nat} {k : Nat} {js : List Nat} (h : Ob bs n es lsE k js) (hb : Built bs n es) (hn : n ≤ 16383) : js.length ≤ 8191 := by
  have h1 := chain_len h.ch
  have h2 := h.ob.en
  have h3 := hb.len
  omega

variable {F : Interp} {w wi : World} {bd O D B n T : Nat} {A : Nat → Nat} {es : List Ent} {g cp : Nat → Nat} {lsE : Nat → List Nat} {k : Nat} {js : List Nat} {ks os_ : List Value} {first : Nat}

def Alike (A : Nat → Nat) (es : List Ent) (lsE : Nat → List Nat) (js : List Nat) : Prop := ∃ x y, x < js.length ∧ y < js.length ∧ x ≠ y ∧ cmpU (uOf A es lsE (js.getD x 0)) (uOf A es lsE (js.getD y 0)) = 0
structure Ordd (A : Nat → Nat) (es : List Ent) (lsE : Nat → List Nat) (js od : List Nat) : Prop where
  st : StrictP (fun i => uOf A es lsE (js.getD i 0)) od
  pm : od.Perm (List.range js.length)

theorem Ordd.len {od : List Nat} (h : Ordd A es lsE js od) : od.length = js.length := by rw [h.pm.length_eq, List.length_range]

/-- What the first add leaves. -/
def Add1 (F : Interp) (w : World) (bd O D B n T : Nat) (A : Nat → Nat) (es : List Ent) (g cp : Nat → Nat) (lsE : Nat → List Nat) (js : List Nat) (e : Ending) (w' : World) : Prop :=
  Law F w w' bd O D B n T A es g cp ∧ ((e = .returned (.tuple #[.int .i32 0, .int .i32 0, .nilIface]) ∧ ∃ od, Ordd A es lsE js od ∧ NSS w' O O js.length (keysOf A es js) (ordV od)) ∨
    ((∃ a, e = .returned (.tuple #[.int .i32 0, .int .i32 0, .iface 149 (.pointer (some a))])) ∧ Alike A es lsE js ∧ NSS w' O O 0 [] []))

/-- What the second leaves. -/
def Add2 (F : Interp) (w : World) (bd O D B n T : Nat) (A : Nat → Nat) (es : List Ent) (g cp : Nat → Nat) (lsE : Nat → List Nat) (js : List Nat) (first : Nat) (ks os_ : List Value) (e : Ending) (w' : World) : Prop :=
  Law F w w' bd O D B n T A es g cp ∧ ((e = .returned (.tuple #[.int .i32 (first : Int), .int .i32 0, .nilIface]) ∧ ∃ od, Ordd A es lsE js od ∧ NS w' O O (first + js.length) (ks ++ keysOf A es js) (os_ ++ ordV od)) ∨
    ((∃ a, e = .returned (.tuple #[.int .i32 0, .int .i32 0, .iface 149 (.pointer (some a))])) ∧ Alike A es lsE js ∧ NS w' O O first ks os_))

theorem add_second (hl : Law F w wi bd O D B n T A es g cp) (hs : NSS wi O O first ks os_) (ho : Ob A n es lsE k js) (hf : first ≤ 8191) :
    Calls Tryz.prog 9 #[.pointer (some ⟨O, 0, none⟩), .slice (some ⟨B, 0, none⟩) n n, .pointer (some ⟨D, 0, none⟩), .int .i64 k] wi (Add2 F w bd O D B n T A es g cp lsE js first ks os_) := by
  obtain ⟨⟨kv, ov, h1, h2⟩, h3⟩ := hs
  have hE := h1.env (bd := O) hl.txt (Nat.le_refl _) ho.ob.lt ho.ob.en ho.ch hf
  refine (namesAdd_two B n n D k hl.hO (add_two F O O O D B n n k first (at_ es k).en A es js kv ov ks os_ lsE hl.ans hE ho.ob h2)).mono ?_
  rintro e w' ⟨hb, ⟨he, od, kv', ov', q1, q2, q3, q4⟩ | ⟨he, hal, kv', ov', q1, q2⟩⟩
  · exact ⟨hl.below hb, .inl ⟨he, od, ⟨q1, q2⟩, ⟨kv', ov', q3⟩, h3.add q2⟩⟩
  · exact ⟨hl.below hb, .inr ⟨he, hal, ⟨kv', ov', q1⟩, h3⟩⟩

theorem add_first (hl : Law F w wi bd O D B n T A es g cp) (h1 : NSt wi O O 0 (.slice none 0 0) (.slice none 0 0) [] []) (hfr : Fresh wi O) (ho : Ob A n es lsE k js) :
    Calls Tryz.prog 9 #[.pointer (some ⟨O, 0, none⟩), .slice (some ⟨B, 0, none⟩) n n, .pointer (some ⟨D, 0, none⟩), .int .i64 k] wi (Add1 F w bd O D B n T A es g cp lsE js) := by
  have hE := h1.env (bd := O) hl.txt (Nat.le_refl _) ho.ob.lt ho.ob.en ho.ch (by omega)
  refine (namesAdd_two B n n D k hl.hO (add_two F O O O D B n n k 0 (at_ es k).en A es js _ _ [] [] lsE hl.ans hE ho.ob (slots_fresh hfr))).mono ?_
  rintro e w' ⟨hb, ⟨he, od, kv', ov', q1, q2, q3, q4⟩ | ⟨he, hal, kv', ov', q1, q2⟩⟩
  · have hz := (KZ.nil.add (bs := A) (es := es) q2)
    rw [Nat.zero_add] at hz q3
    exact ⟨hl.below hb, .inl ⟨he, od, ⟨q1, q2⟩, ⟨kv', ov', q3, q4 hfr⟩, hz⟩⟩
  · exact ⟨hl.below hb, .inr ⟨he, hal, ⟨kv', ov', q1, slots_fresh (fun s hs => ⟨(q2 _ (by omega)).trans (hfr s hs).1, (q2 _ (by omega)).trans (hfr s hs).2⟩)⟩, KZ.nil⟩⟩

theorem agree_yes {od : List Nat} (hl : Law F w wi bd O D B n T A es g cp) (hs : NS wi O O (first + js.length) (ks ++ keysOf A es js) (os_ ++ ordV od)) (hz : KZ ks os_ first) (ho : Ob A n es lsE k js) (hd : Ordd A es lsE js od) (hf : first ≤ 8191) :
    Calls Tryz.prog 10 #[.slice (some ⟨B, 0, none⟩) n n, .pointer (some ⟨T, 0, none⟩), .int .i64 k, .pointer (some ⟨O, 0, none⟩), .int .i64 first, .int .i32 first, .int .i32 0, .bool false] wi fun e w' => e = .returned (.bool true) ∧ Below wi.heap.size wi w' := by
  have hk : ∀ i f, i < js.length → f < 4 → fkOf (ks ++ keysOf A es js) (first + i) f = intOf ((keyE A es (js.getD i 0)).getD f .nilIface) := fun i f hi hf => fk_mid (X := []) (by rw [List.append_nil]) hz.lk hi hf
  refine agrees_ok wi.heap.size O first od _ _ hl.env ho.ob hd.st hd.pm hs.nr (Nat.le_refl _) (by omega) (fun i hi => fo_mid (Y := []) (by rw [List.append_nil]) hz.lo (by rw [hd.len]; exact hi)) (fun i hi => ?_) (fun i hi => ?_) (fun i hi => ?_) (fun i hi => ?_)
  · rw [hk i 0 hi (by omega)]; rfl
  · rw [hk i 1 hi (by omega)]; rfl
  · rw [hk i 2 hi (by omega)]
    have hst := (ho.ob.str i hi).1
    show (((at_ es (js.getD i 0)).en - 1 : Nat) : Int) = _
    omega
  · rw [hk i 3 hi (by omega)]; rfl

theorem agree_not (hl : Law F w wi bd O D B n T A es g cp) (hs : NS wi O O first ks os_) (ho : Ob A n es lsE k js) (ha : Alike A es lsE js) (hf : first ≤ 8191) :
    Calls Tryz.prog 10 #[.slice (some ⟨B, 0, none⟩) n n, .pointer (some ⟨T, 0, none⟩), .int .i64 k, .pointer (some ⟨O, 0, none⟩), .int .i64 first, .int .i32 0, .int .i32 0, .bool true] wi fun e w' => e = .returned (.bool true) ∧ Below wi.heap.size wi w' :=
  agrees_no wi.heap.size O first _ _ hl.env ho.ob ha hs.nr (Nat.le_refl _) (by omega)

/-- The names sorted: are they all apart? -/
def Sorted (m : Nat) (d : Bool) (w : World) (e : Ending) (w' : World) : Prop := ∃ gp, e = .returned (.tuple #[.slice (some ⟨gp, 0, none⟩) m m, .bool d]) ∧ Below w.heap.size w w'

theorem sort_yes {od : List Nat} (hh : Nat) (hl : Law F w wi bd O D B n T A es g cp) (ho : Ob A n es lsE k js) (hd : Ordd A es lsE js od) (hr : Row wi hh js.length (fun i => slOf B n es (js.getD i 0))) :
    Calls Tryz.prog 13 #[.slice (some ⟨hh, 0, none⟩) js.length js.length] wi (Sorted js.length true wi) := by
  refine (sort_obj hh hl.env ho.ob hr).mono ?_
  rintro e w3 ⟨gp, P, d, rfl, hrp, hpp, hsp, hd1, hd2, hb3⟩
  have ed : d = true := by
    cases d with
    | true => rfl
    | false =>
      obtain ⟨x, y, hx, hy, hxy, he⟩ := hd2 rfl
      exact absurd he (hd.st.distinct _ hd.pm hx hy hxy)
  subst ed
  exact ⟨gp, rfl, hb3⟩

theorem sort_not (hh : Nat) (hl : Law F w wi bd O D B n T A es g cp) (ho : Ob A n es lsE k js) (ha : Alike A es lsE js) (hr : Row wi hh js.length (fun i => slOf B n es (js.getD i 0))) :
    Calls Tryz.prog 13 #[.slice (some ⟨hh, 0, none⟩) js.length js.length] wi (Sorted js.length false wi) := by
  refine (sort_obj hh hl.env ho.ob hr).mono ?_
  rintro e w3 ⟨gp, P, d, rfl, hrp, hpp, hsp, hd1, hd2, hb3⟩
  have ed : d = false := by
    cases d with
    | false => rfl
    | true =>
      obtain ⟨x, y, hx, hy, hxy, he⟩ := ha
      exact absurd he ((hd1 rfl).distinct _ hpp hx hy hxy)
  subst ed
  exact ⟨gp, rfl, hb3⟩

/-- The first object's order, read at the end. -/
theorem last_any {od : List Nat} {L M X Y : List Value} {nk c g0 g1 g2 g3 : Nat} {a : Option Addr} (hl : Law F w wi bd O D B n T A es g cp) (ho : Ob A n es lsE k js) (hd : Ordd A es lsE js od) (hL : L = keysOf A es js ++ X) (hM : M = ordV od ++ Y) (hjn : js.length ≤ nk) (hnk : nk ≤ 1000000)
    (so : Sl wi wi.heap.size (.slice a nk c) nk (fun i => .int .u64 (foOf M i : Nat))) (r0 : Row wi g0 nk (fun i => .int .i32 (fkOf L i 0))) (r1 : Row wi g1 nk (fun i => .int .i32 (fkOf L i 1))) (r2 : Row wi g2 nk (fun i => .int .i32 (fkOf L i 2))) (r3 : Row wi g3 nk (fun i => .int .i32 (fkOf L i 3))) :
    Calls Tryz.prog 17 #[.slice (some ⟨B, 0, none⟩) n n, .pointer (some ⟨T, 0, none⟩), .int .i64 k, .int .i64 0, .slice a nk c, .slice (some ⟨g0, 0, none⟩) nk nk, .slice (some ⟨g1, 0, none⟩) nk nk, .slice (some ⟨g2, 0, none⟩) nk nk, .slice (some ⟨g3, 0, none⟩) nk nk] wi fun e w' => e = .returned (.bool true) ∧ Below wi.heap.size wi w' := by
  have hk : ∀ i f, i < js.length → f < 4 → fkOf L (0 + i) f = intOf ((keyE A es (js.getD i 0)).getD f .nilIface) := fun i f hi hf => fk_mid (ks := []) (X := X) (by rw [hL]; rfl) rfl hi hf
  refine orderAt_any 0 od hl.env ho.ob hd.st hd.pm _ _ _ _ _ nk nk nk nk nk _ _ _ _ _ so (Sl.ofRow r0) (Sl.ofRow r1) (Sl.ofRow r2) (Sl.ofRow r3) (by omega) (by omega) (by omega) (by omega) (by omega) ⟨hnk, hnk, hnk, hnk, hnk⟩ (fun i hi => ?_) (fun i hi => ?_) (fun i hi => ?_) (fun i hi => ?_) (fun i hi => ?_)
  · show Value.int .u64 ((foOf M (0 + i) : Nat) : Int) = _
    rw [show foOf M (0 + i) = od.getD i 0 from fo_mid (os_ := []) (Y := Y) (by rw [hM]; rfl) rfl (by rw [hd.len]; exact hi)]
  · show Value.int .i32 (fkOf L (0 + i) 0) = _
    rw [hk i 0 hi (by omega)]; rfl
  · show Value.int .i32 (fkOf L (0 + i) 1) = _
    rw [hk i 1 hi (by omega)]; rfl
  · show Value.int .i32 (fkOf L (0 + i) 2) = _
    rw [hk i 2 hi (by omega)]
    have hst := (ho.ob.str i hi).1
    show Value.int .i32 (((at_ es (js.getD i 0)).en - 1 : Nat) : Int) = _
    rw [show (((at_ es (js.getD i 0)).en - 1 : Nat) : Int) = ((at_ es (js.getD i 0)).en : Int) - 1 by omega]
  · show Value.int .i32 (fkOf L (0 + i) 3) = _
    rw [hk i 3 hi (by omega)]; rfl

end Go.Proofs.Qxb6616638aGreatFmt.Two
