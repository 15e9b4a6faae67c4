/-
  PLAIN: the tape that the law builds, as a list of entries; what the building keeps. No Go in sight.
-/
import Derived.Test.Qxb6616638aGreatFmtUtf
namespace Go.Proofs.Qxb6616638aGreatFmt.Plain

structure Ent where
  st : Nat
  en : Nat
  cl : Bool
  nm : Bool
  pa : Int

def ent0 : Ent := ⟨0, 0, false, false, 0⟩
/-- Entry x of the tape. -/
def at_ (es : List Ent) (x : Nat) : Ent := es.getD x ent0

theorem at_append_left {es ext : List Ent} {x : Nat} (h : x < es.length) : at_ (es ++ ext) x = at_ es x := by
  simp [at_, List.getD_eq_getElem?_getD, List.getElem?_append_left h]
theorem at_append_self {es : List Ent} {e : Ent} : at_ (es ++ [e]) es.length = e := by
  simp [at_, List.getD_eq_getElem?_getD]
theorem at_set_same {es : List Ent} {x : Nat} {e : Ent} (h : x < es.length) : at_ (es.set x e) x = e := by
  simp [at_, List.getD_eq_getElem?_getD, h]
theorem at_set_other {es : List Ent} {x y : Nat} {e : Ent} (h : y ≠ x) : at_ (es.set x e) y = at_ es y := by
  simp [at_, List.getD_eq_getElem?_getD, List.getElem?_set_ne (Ne.symm h)]

variable (bs : Nat → Nat) (n : Nat)

def isCont (c : Nat) : Bool := c == 123 || c == 91

/-- The entry just past value k and what lies within it. -/
def nxt (es : List Ent) (k : Nat) : Nat := if isCont (bs (at_ es k).st) then (at_ es k).en + 1 else k + 1

/-- The members of object k whose names are the entries js, from entry p to entry q. -/
def Chain (es : List Ent) (k : Nat) : Nat → List Nat → Nat → Prop
  | p, [], q => p = q
  | p, j :: js, q => j = p ∧ j + 1 < es.length ∧ (at_ es j).nm = true ∧ (at_ es j).cl = false ∧ (at_ es j).pa = k ∧ Str bs n (at_ es j).st (at_ es j).en ∧ bs (at_ es j).st = 34 ∧
      (at_ es (j + 1)).nm = false ∧ (at_ es (j + 1)).cl = false ∧ j + 1 < nxt bs es (j + 1) ∧ (∀ x, j + 1 ≤ x → x < nxt bs es (j + 1) → ¬ ((at_ es x).nm = true ∧ (at_ es x).pa = k)) ∧ Chain es k (nxt bs es (j + 1)) js q

def ObjOK (es : List Ent) (k : Nat) : Prop :=
  (at_ es k).cl = false → bs (at_ es k).st = 123 → (at_ es k).en < es.length ∧ ∃ js, Chain bs n es k (k + 1) js (at_ es k).en

/-- Each entry lies in the text. -/
def Fits (es : List Ent) (x : Nat) : Prop := (at_ es x).st < n ∧ (at_ es x).en ≤ n ∧ -1 ≤ (at_ es x).pa ∧ (at_ es x).pa < x

variable {bs n}

theorem Chain.le {es : List Ent} {k q : Nat} : ∀ {p : Nat} {js : List Nat}, Chain bs n es k p js q → p ≤ q
  | p, [], h => by simp only [Chain] at h; omega
  | p, j :: js, h => by
    have h1 := Chain.le h.2.2.2.2.2.2.2.2.2.2.2
    have h2 := h.2.2.2.2.2.2.2.2.2.1
    have h3 := h.1
    omega

/-- Two tapes that agree from p on agree on the chain. -/
theorem Chain.congr {es es' : List Ent} {k q : Nat} (hq : q ≤ es.length) (hl : es.length ≤ es'.length) : ∀ {p : Nat} {js : List Nat}, (∀ y, p ≤ y → y < es.length → at_ es' y = at_ es y) → Chain bs n es k p js q → Chain bs n es' k p js q
  | p, [], _, h => h
  | p, j :: js, he, h => by
    have hle := Chain.le h.2.2.2.2.2.2.2.2.2.2.2
    obtain ⟨h1, h2, h3, h4, h5, h6, h7, h8, h9, h10, h11, h12⟩ := h
    subst h1
    have e0 := he j (Nat.le_refl _) (by omega)
    have e1 := he (j + 1) (by omega) h2
    have en : nxt bs es' (j + 1) = nxt bs es (j + 1) := by unfold nxt; rw [e1]
    refine ⟨rfl, by omega, by rw [e0]; exact h3, by rw [e0]; exact h4, by rw [e0]; exact h5, by rw [e0]; exact h6, by rw [e0]; exact h7, by rw [e1]; exact h8, by rw [e1]; exact h9, by rw [en]; exact h10, ?_, ?_⟩
    · intro x hx1 hx2
      rw [en] at hx2
      rw [he x (by omega) (by omega)]
      exact h11 x hx1 hx2
    · rw [en]
      exact Chain.congr hq hl (fun y hy1 hy2 => he y (by omega) hy2) h12

theorem ObjOK.congr {es es' : List Ent} {k : Nat} (hk : k < es.length) (hl : es.length ≤ es'.length) (he : ∀ y, k ≤ y → y < es.length → at_ es' y = at_ es y) (h : ObjOK bs n es k) : ObjOK bs n es' k := by
  have e0 := he k (Nat.le_refl _) hk
  intro h1 h2
  rw [e0] at h1 h2
  obtain ⟨h3, js, h4⟩ := h h1 h2
  rw [e0]
  exact ⟨by omega, js, h4.congr (by omega) hl (fun y hy1 hy2 => he y (by omega) hy2)⟩

/-- One member more at the chain's end. -/
theorem Chain.snoc {es : List Ent} {k q q' : Nat} (h2 : q + 1 < es.length) (h3 : (at_ es q).nm = true) (h4 : (at_ es q).cl = false) (h5 : (at_ es q).pa = k) (h6 : Str bs n (at_ es q).st (at_ es q).en) (h7 : bs (at_ es q).st = 34)
    (h8 : (at_ es (q + 1)).nm = false) (h9 : (at_ es (q + 1)).cl = false) (h10 : q + 1 < q') (hn : nxt bs es (q + 1) = q') (h11 : ∀ x, q + 1 ≤ x → x < q' → ¬ ((at_ es x).nm = true ∧ (at_ es x).pa = k)) :
    ∀ {p : Nat} {js : List Nat}, Chain bs n es k p js q → Chain bs n es k p (js ++ [q]) q'
  | p, [], h => by
    simp only [Chain] at h
    subst h
    exact ⟨rfl, h2, h3, h4, h5, h6, h7, h8, h9, by rw [hn]; exact h10, by rw [hn]; exact h11, hn⟩
  | p, j :: js, h => by
    obtain ⟨a1, a2, a3, a4, a5, a6, a7, a8, a9, a10, a11, a12⟩ := h
    exact ⟨a1, a2, a3, a4, a5, a6, a7, a8, a9, a10, a11, Chain.snoc h2 h3 h4 h5 h6 h7 h8 h9 h10 hn h11 a12⟩

/-- WHAT 'value' LEAVES: from the tape es at place i it has come to the tape es' at place j. -/
structure ValPost (bs : Nat → Nat) (n : Nat) (es es' : List Ent) (i : Nat) (parent : Int) (j : Nat) : Prop where
  ext : ∃ ex, es' = es ++ ex
  lt : es.length < es'.length
  st : (at_ es' es.length).st = i
  pa : (at_ es' es.length).pa = parent
  nm : (at_ es' es.length).nm = false
  cl : (at_ es' es.length).cl = false
  inner : ∀ x, es.length < x → x < es'.length → (es.length : Int) ≤ (at_ es' x).pa
  nxt : nxt bs es' es.length = es'.length
  ok : ∀ x, es.length ≤ x → x < es'.length → Fits n es' x ∧ ObjOK bs n es' x
  ij : i < j
  jn : j ≤ n
  room : es'.length ≤ es.length + (j - i)

/-- A scalar. -/
theorem ValPost.scalar {es : List Ent} {i e : Nat} {parent : Int} (hi : i < e) (he : e ≤ n) (hp : -1 ≤ parent) (hp2 : parent < es.length) (h1 : bs i ≠ 123) (h2 : bs i ≠ 91) : ValPost bs n es (es ++ [⟨i, e, false, false, parent⟩]) i parent e := by
  have h0 : at_ (es ++ [⟨i, e, false, false, parent⟩]) es.length = ⟨i, e, false, false, parent⟩ := at_append_self
  refine ⟨⟨_, rfl⟩, by simp, by rw [h0], by rw [h0], by rw [h0], by rw [h0], fun x a b => by simp at b; omega, ?_, fun x a b => ?_, hi, he, by simp; omega⟩
  · unfold Plain.nxt
    rw [h0]
    have : isCont (bs i) = false := by simp [isCont, h1, h2]
    simp [this]
  · have e : x = es.length := by simp at b; omega
    subst e
    refine ⟨?_, ?_⟩
    · unfold Fits
      rw [h0]
      exact ⟨by show i < n; omega, he, hp, hp2⟩
    · intro _ h
      rw [h0] at h
      exact absurd h h1

/-- WHERE 'value' STANDS INSIDE AN ARRAY OR OBJECT that it opened at entry es.length. -/
structure Inside (bs : Nat → Nat) (n : Nat) (es ec : List Ent) (i : Nat) (parent : Int) (j : Nat) : Prop where
  ext : ∃ ex, ec = es ++ ex
  lt : es.length < ec.length
  head : at_ ec es.length = ⟨i, 0, false, false, parent⟩
  inner : ∀ x, es.length < x → x < ec.length → (es.length : Int) ≤ (at_ ec x).pa
  ok : ∀ x, es.length < x → x < ec.length → Fits n ec x ∧ ObjOK bs n ec x
  chain : bs i = 123 → ∃ js, Chain bs n ec es.length (es.length + 1) js ec.length
  ij : i < j
  room : ec.length ≤ es.length + (j - i)

theorem Inside.start {es : List Ent} {i : Nat} {parent : Int} : Inside bs n es (es ++ [⟨i, 0, false, false, parent⟩]) i parent (i + 1) :=
  ⟨⟨_, rfl⟩, by simp, at_append_self, fun x a b => by simp at b; omega, fun x a b => by simp at b; omega, fun _ => ⟨[], by simp [Chain]⟩, by omega, by simp⟩

theorem Inside.later {es ec : List Ent} {i j j' : Nat} {parent : Int} (h : Inside bs n es ec i parent j) (hj : j ≤ j') : Inside bs n es ec i parent j' :=
  ⟨h.ext, h.lt, h.head, h.inner, h.ok, h.chain, by have := h.ij; omega, by have := h.room; omega⟩

/-- An array's item. -/
theorem Inside.item {es ec ed : List Ent} {i j j' j2 : Nat} {parent : Int} (h : Inside bs n es ec i parent j) (hc : bs i ≠ 123) (hj : j ≤ j') (hv : ValPost bs n ec ed j' es.length j2) : Inside bs n es ed i parent j2 := by
  obtain ⟨ex, rfl⟩ := h.ext
  obtain ⟨ey, rfl⟩ := hv.ext
  have hlt := h.lt
  refine ⟨⟨ex ++ ey, by simp⟩, by have := hv.lt; omega, by rw [at_append_left hlt]; exact h.head, ?_, ?_, fun hh => absurd hh hc, by have := hv.ij; have := h.ij; omega, ?_⟩
  · intro x a b
    rcases Nat.lt_trichotomy x (es ++ ex).length with c | c | c
    · rw [at_append_left c]
      exact h.inner x a c
    · rw [c, hv.pa]
      exact Int.le_refl _
    · have := hv.inner x c b
      omega
  · intro x a b
    rcases Nat.lt_or_ge x (es ++ ex).length with c | c
    · obtain ⟨f, o⟩ := h.ok x a c
      refine ⟨?_, o.congr c (by simp) (fun y _ hy => at_append_left hy)⟩
      unfold Fits
      rw [at_append_left c]
      exact f
    · exact hv.ok x c b
  · have := hv.room
    have := h.room
    have := hv.ij
    have := h.ij
    omega

/-- An object's member: its name lies at jn .. e, its value from jv on. -/
theorem Inside.member {es ec ed : List Ent} {i j jn e jv j2 : Nat} {parent : Int} (h : Inside bs n es ec i parent j) (hj : j ≤ jn) (hq : bs jn = 34) (hs : Str bs n jn e) (he : e ≤ jv)
    (hv : ValPost bs n (ec ++ [⟨jn, e, false, true, es.length⟩]) ed jv es.length j2) : Inside bs n es ed i parent j2 := by
  obtain ⟨ex, rfl⟩ := h.ext
  obtain ⟨ey, rfl⟩ := hv.ext
  have hlt := h.lt
  have hl1 : ((es ++ ex) ++ [Ent.mk jn e false true (es.length : Int)] : List Ent).length = (es ++ ex).length + 1 := by simp [Nat.add_assoc]
  have hnm : at_ ((es ++ ex) ++ [Ent.mk jn e false true (es.length : Int)] ++ ey) (es ++ ex).length = ⟨jn, e, false, true, es.length⟩ := by
    rw [at_append_left (by rw [hl1]; omega)]
    exact at_append_self
  have hold : ∀ y, y < (es ++ ex).length → at_ ((es ++ ex) ++ [Ent.mk jn e false true (es.length : Int)] ++ ey) y = at_ (es ++ ex) y := by
    intro y hy
    rw [at_append_left (by rw [hl1]; omega), at_append_left hy]
  have hvlt := hv.lt
  have hvst := hv.st
  have hvpa := hv.pa
  have hvnm := hv.nm
  have hvcl := hv.cl
  have hvin := hv.inner
  have hvnx := hv.nxt
  have hvok := hv.ok
  have hvroom := hv.room
  have hvij := hv.ij
  rw [hl1] at hvlt hvst hvpa hvnm hvcl hvin hvnx hvok hvroom
  have hs1 := hs.1
  have hs2 := hs.2.1
  generalize hG : (es ++ ex) ++ [Ent.mk jn e false true (es.length : Int)] ++ ey = ed at *
  have hlen2 : (es ++ ex).length ≤ ed.length := by omega
  refine ⟨⟨ex ++ [⟨jn, e, false, true, es.length⟩] ++ ey, by rw [← hG]; simp⟩, by omega, by rw [hold _ hlt]; exact h.head, ?_, ?_, ?_, by have := h.ij; omega, ?_⟩
  · intro x a b
    rcases Nat.lt_trichotomy x (es ++ ex).length with c | c | c
    · rw [hold x c]
      exact h.inner x a c
    · rw [c, hnm]
      exact Int.le_refl _
    · rcases Nat.lt_or_ge ((es ++ ex).length + 1) x with d | d
      · have := hvin x d b
        omega
      · have e1 : x = (es ++ ex).length + 1 := by omega
        rw [e1, hvpa]
        exact Int.le_refl _
  · intro x a b
    rcases Nat.lt_trichotomy x (es ++ ex).length with c | c | c
    · obtain ⟨f, o⟩ := h.ok x a c
      refine ⟨?_, o.congr c hlen2 (fun y _ hy => hold y hy)⟩
      unfold Fits
      rw [hold x c]
      exact f
    · rw [c]
      refine ⟨?_, ?_⟩
      · unfold Fits
        rw [hnm]
        exact ⟨by show jn < n; omega, hs2, by show (-1 : Int) ≤ es.length; omega, by show (es.length : Int) < _; omega⟩
      · intro _ hh
        rw [hnm] at hh
        have hh' : bs jn = 123 := hh
        omega
    · exact hvok x (by omega) b
  · intro hc
    obtain ⟨js, hch⟩ := h.chain hc
    refine ⟨js ++ [(es ++ ex).length], ?_⟩
    have hch' : Chain bs n ed es.length (es.length + 1) js (es ++ ex).length := hch.congr (Nat.le_refl _) hlen2 (fun y _ hy => hold y hy)
    refine hch'.snoc (by omega) (by rw [hnm]) (by rw [hnm]) (by rw [hnm]) (by rw [hnm]; exact hs) (by rw [hnm]; exact hq) hvnm hvcl (by omega) hvnx ?_
    intro x a b
    rcases Nat.lt_or_ge ((es ++ ex).length + 1) x with d | d
    · have := hvin x d b
      intro hx
      have := hx.2
      omega
    · have e1 : x = (es ++ ex).length + 1 := by omega
      rw [e1, hvnm]
      intro hx
      cases hx.1
  · have := h.room
    have := h.ij
    omega

/-- The closing bracket at j. -/
theorem Inside.close {es ec : List Ent} {i j j' : Nat} {parent : Int} (h : Inside bs n es ec i parent j) (hj : j ≤ j') (hjn : j' < n) (hi : isCont (bs i) = true) (hL : es.length ≤ i) (hp : -1 ≤ parent) (hp2 : parent < es.length) :
    ValPost bs n es ((ec ++ [Ent.mk j' (j' + 1) true false es.length]).set es.length (Ent.mk i ec.length false false parent)) i parent (j' + 1) := by
  obtain ⟨ex, rfl⟩ := h.ext
  have hlt := h.lt
  have hroom := h.room
  have hij := h.ij
  have hl : (((es ++ ex) ++ [Ent.mk j' (j' + 1) true false (es.length : Int)]).set es.length (Ent.mk i (es ++ ex).length false false parent)).length = (es ++ ex).length + 1 := by simp [Nat.add_assoc]
  have h0 : at_ (((es ++ ex) ++ [Ent.mk j' (j' + 1) true false (es.length : Int)]).set es.length (Ent.mk i (es ++ ex).length false false parent)) es.length = (Ent.mk i (es ++ ex).length false false parent) := at_set_same (by simp)
  have hold : ∀ y, es.length < y → y < (es ++ ex).length → at_ (((es ++ ex) ++ [Ent.mk j' (j' + 1) true false (es.length : Int)]).set es.length (Ent.mk i (es ++ ex).length false false parent)) y = at_ (es ++ ex) y := by
    intro y h1 h2
    rw [at_set_other (by omega), at_append_left h2]
  have hlast : at_ (((es ++ ex) ++ [Ent.mk j' (j' + 1) true false (es.length : Int)]).set es.length (Ent.mk i (es ++ ex).length false false parent)) (es ++ ex).length = ⟨j', j' + 1, true, false, es.length⟩ := by
    rw [at_set_other (by omega)]
    exact at_append_self
  refine ⟨?_, by omega, by rw [h0], by rw [h0], by rw [h0], by rw [h0], ?_, ?_, ?_, by omega, by omega, by omega⟩
  · refine ⟨(ex ++ [Ent.mk j' (j' + 1) true false es.length]).set 0 (Ent.mk i (es ++ ex).length false false parent), ?_⟩
    rw [List.append_assoc, List.set_append_right _ _ (Nat.le_refl _)]
    simp
  · intro x a b
    rcases Nat.lt_or_ge x (es ++ ex).length with c | c
    · rw [hold x a c]
      exact h.inner x a c
    · have e : x = (es ++ ex).length := by omega
      rw [e, hlast]
      exact Int.le_refl _
  · unfold Plain.nxt
    rw [h0]
    simp only [hi, if_true]
    rw [hl]
  · intro x a b
    rcases Nat.lt_trichotomy x es.length with c | c | c
    · omega
    · rw [c]
      refine ⟨?_, ?_⟩
      · unfold Fits
        rw [h0]
        exact ⟨by show i < n; omega, by show (es ++ ex).length ≤ n; omega, hp, hp2⟩
      · intro _ hh
        rw [h0] at hh ⊢
        obtain ⟨js, hch⟩ := h.chain hh
        exact ⟨by show (es ++ ex).length < _; omega, js, hch.congr (Nat.le_refl _) (by omega) (fun y h1 h2 => hold y (by omega) h2)⟩
    · rcases Nat.lt_or_ge x (es ++ ex).length with d | d
      · obtain ⟨f, o⟩ := h.ok x c d
        refine ⟨?_, o.congr d (by omega) (fun y h1 h2 => hold y (by omega) h2)⟩
        unfold Fits
        rw [hold x c d]
        exact f
      · have e : x = (es ++ ex).length := by omega
        rw [e]
        refine ⟨?_, ?_⟩
        · unfold Fits
          rw [hlast]
          exact ⟨hjn, hjn, by show (-1 : Int) ≤ es.length; omega, by show (es.length : Int) < _; omega⟩
        · intro hcl
          rw [hlast] at hcl
          cases hcl

end Go.Proofs.Qxb6616638aGreatFmt.Plain
