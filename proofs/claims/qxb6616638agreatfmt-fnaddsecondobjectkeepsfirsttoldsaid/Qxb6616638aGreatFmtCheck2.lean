/-
  THE WALKS of zzMemberEnd and zzMembers.
-/
import Derived.Test.Qxb6616638aGreatFmtCheck1
namespace Go.Proofs.Qxb6616638aGreatFmt
open Go.RowKit
open Plain
set_option linter.unusedVariables false
set_option maxRecDepth 100000

namespace Plain
/-- The end that a member's key bears. -/
def mEnd (bs : Nat → Nat) (es : List Ent) (j : Nat) : Nat :=
  if isCont (bs (at_ es (j + 1)).st) then 0 else if (at_ es (j + 1)).st = (at_ es j).en + 1 then (at_ es (j + 1)).en else 0

/-- The names of object k among the m entries behind it. -/
def mems (es : List Ent) (k : Nat) : Nat → List Nat
  | 0 => []
  | m + 1 => mems es k m ++ (if (at_ es (k + 1 + m)).nm = true ∧ (at_ es (k + 1 + m)).pa = k then [k + 1 + m] else [])

theorem mems_le (es : List Ent) (k m : Nat) : (mems es k m).length ≤ m := by
  induction m with
  | zero => simp [mems]
  | succ m ih =>
    rw [mems]
    split <;> simp <;> omega

theorem mems_add (es : List Ent) (k m : Nat) : ∀ d, (∀ x, k + 1 + m ≤ x → x < k + 1 + m + d → ¬ ((at_ es x).nm = true ∧ (at_ es x).pa = k)) → mems es k (m + d) = mems es k m
  | 0, _ => rfl
  | d + 1, h => by
    rw [← Nat.add_assoc, mems, mems_add es k m d (fun x h1 h2 => h x h1 (by omega)), if_neg (h (k + 1 + (m + d)) (by omega) (by omega))]
    simp

/-- What the checks gather is the chain. -/
theorem mems_chain {bs : Nat → Nat} {n : Nat} {es : List Ent} {k q : Nat} : ∀ {p : Nat} {js : List Nat}, k + 1 ≤ p → Chain bs n es k p js q → mems es k (q - (k + 1)) = mems es k (p - (k + 1)) ++ js
  | p, [], hp, h => by
    simp only [Chain] at h
    subst h
    simp
  | p, j :: js, hp, h => by
    have hle := Chain.le h.2.2.2.2.2.2.2.2.2.2.2
    obtain ⟨h1, h2, h3, h4, h5, h6, h7, h8, h9, h10, h11, h12⟩ := h
    subst h1
    rw [mems_chain (by omega) h12]
    have e1 : nxt bs es (j + 1) - (k + 1) = (j - (k + 1) + 1) + (nxt bs es (j + 1) - (j + 1)) := by omega
    rw [e1, mems_add _ _ _ _ (fun x a b => h11 x (by omega) (by omega)), mems]
    have e2 : k + 1 + (j - (k + 1)) = j := by omega
    rw [e2, if_pos ⟨h3, h5⟩]
    simp
end Plain

theorem info3 : ∃ i, Tryz.prog.info? 3 = some i ∧ i.zero = some (.int .i64 0) ∧ i.size = 1 ∧ i.bytes = 8 := by
  have h : (Tryz.prog.info? 3).map (fun i => (i.zero, i.size, i.bytes)) = some (some (.int .i64 0), 1, 8) := by kernel_rfl
  obtain ⟨i, hi, hz⟩ := Option.map_eq_some_iff.1 h
  simp only [Prod.mk.injEq] at hz
  exact ⟨i, hi, hz.1, hz.2.1, hz.2.2⟩

variable {w : World} {bd T : Nat} {es : List Ent} {g cp : Nat → Nat}

set_option maxHeartbeats 1000000 in
theorem memberEnd_any (B n cap j : Nat) (bs : Nat → Nat) (h : TR w bd T es g cp) (hn : n ≤ 16383) (hx : Txt w B n bs) (hB : Built bs n es) (hj : j + 1 < es.length) :
    Calls Tryz.prog 25 #[.slice (some ⟨B, 0, none⟩) n cap, .pointer (some ⟨T, 0, none⟩), .int .i64 j] w fun e w' => e = .returned (.int .i32 (mEnd bs es j : Int)) ∧ ∃ q, w' = w.drewN q := by
  have hlen : es.length ≤ n := hB.len
  have c0 := h.cell 0 (by omega)
  have c1 := h.cell 1 (by omega)
  have s1 := h.st (j + 1) hj
  have e0 := h.en j (by omega)
  have e1 := h.en (j + 1) hj
  have hf1 := (hB.ok (j + 1) hj).1
  have hf0 := (hB.ok j (by omega)).1
  have hc := hx.at (at_ es (j + 1)).st hf1.1
  have HM : Hid (mEnd bs es j = if isCont (bs (at_ es (j + 1)).st) then 0 else if (at_ es (j + 1)).st = (at_ es j).en + 1 then (at_ es (j + 1)).en else 0) := rfl
  have q1 := hf1.1
  have q2 := hf1.2.1
  have q3 := hf0.2.1
  generalize (at_ es (j + 1)).st = s at s1 hc HM q1
  generalize (at_ es (j + 1)).en = a1 at e1 HM q2
  generalize (at_ es j).en = a0 at e0 HM q3
  generalize bs s = y at hc HM
  have hji : (j : Int) + 1 < (es.length : Int) := by omega
  have hj0 : (0 : Int) ≤ (j : Int) := by omega
  have hj1 : (j : Int) < (es.length : Int) := by omega
  have hsi : (s : Int) < (n : Int) := by omega
  have hs0 : (0 : Int) ≤ (s : Int) := by omega
  clear h hx hB hf1 hf0
  by_cases y1 : y = 123
  · subst y1
    have HE : Hid (mEnd bs es j = 0) := by show _ = _; rw [HM.out]; rfl
    clear HM
    go_enter Tryz.func25, Tryz.ntmps25
    go_wp2
    go_ret
    exact ⟨ret_int (by rw [HE.out]; rfl), 0, rfl⟩
  have y1' : ((y : Int) == 123) = false := by simp; omega
  by_cases y2 : y = 91
  · subst y2
    have HE : Hid (mEnd bs es j = 0) := by show _ = _; rw [HM.out]; rfl
    clear HM
    go_enter Tryz.func25, Tryz.ntmps25
    go_wp2
    go_ret
    exact ⟨ret_int (by rw [HE.out]; rfl), 0, rfl⟩
  have y2' : ((y : Int) == 91) = false := by simp; omega
  have hic : isCont y = false := by simp [isCont, y1, y2]
  by_cases he : s = a0 + 1
  · have HE : Hid (mEnd bs es j = a1) := by show _ = _; rw [HM.out, hic, if_pos he]; rfl
    have he' : ((s : Int) == (a0 : Int) + 1) = true := by simp; omega
    clear HM hic he y1 y2
    go_enter Tryz.func25, Tryz.ntmps25
    go_wp2
    go_quiet (fail)
    go_wp2
    go_ret
    exact ⟨ret_int (by rw [HE.out]), _, rfl⟩
  · have HE : Hid (mEnd bs es j = 0) := by show _ = _; rw [HM.out, hic, if_neg he]; rfl
    have he' : ((s : Int) == (a0 : Int) + 1) = false := by simp; omega
    clear HM hic he y1 y2
    go_enter Tryz.func25, Tryz.ntmps25
    go_wp2
    go_quiet (fail)
    go_wp2
    go_ret
    exact ⟨ret_int (by rw [HE.out]; rfl), _, rfl⟩

theorem cell_one' (w : World) (x : Value) (t : TypeId) : ∀ j u, [x][j]? = some u → (w.alloc (.cells #[x] t)).cell? ((⟨w.heap.size, 0, none⟩ : Addr).add j) = some u := cell_one w x t

/-- A list of numbers as cells. -/
def ints64 (l : List Nat) : List Value := l.map (fun (x : Nat) => Value.int .i64 (x : Int))

set_option maxHeartbeats 2000000 in
theorem members_any (k : Nat) (h : TR w bd T es g cp) (hl : es.length ≤ 16383) (hk : k < es.length) (hen : (at_ es k).en < es.length) (hbd : bd ≤ w.heap.size) (hft : ∀ x, x < es.length → -1 ≤ (at_ es x).pa ∧ (at_ es x).pa < x) :
    Calls Tryz.prog 12 #[.pointer (some ⟨T, 0, none⟩), .int .i64 k] w fun e w' => (∃ v, e = .returned v ∧ w'.ownsRow w.heap.size 3 1 v (mems es k ((at_ es k).en - (k + 1))).length (ints64 (mems es k ((at_ es k).en - (k + 1))))) ∧ Below w.heap.size w w' := by
  obtain ⟨i3, hi3, hz3, hs3, hb3⟩ := info3
  have HI3 := hide hi3
  have H := hide h
  have HF := hide hft
  clear h hi3 hft
  generalize hE : (at_ es k).en = E at hen
  have HE := hide hE
  clear hE
  go_enter Tryz.func12, Tryz.ntmps12
  go_wp2
  go_loopw [5, 6] (fun v t wr => ∃ m : Nat, t = .int .i64 ((k + 1 + m : Nat) : Int) ∧ (m ≤ E - (k + 1)) ∧ wr.ownsRow w.heap.size 3 1 v (mems es k m).length (ints64 (mems es k m)) ∧ Below w.heap.size w wr) (fun _ t _ => 20000 - (intOf t).toNat)
  case atStart => exact ⟨0, by go_num, Nat.zero_le _, (by simpa [mems, ints64] using World.ownsRow_nil w w.heap.size 3 1), Below.refl _ _⟩
  case round =>
    obtain ⟨m, rfl, hm, hown, hbw⟩ := hrel
    have HR := hide (H.out.below (hbw.mono hbd))
    have c1 := HR.out.cell 1 (by omega)
    have c3 := HR.out.cell 3 (by omega)
    have c4 := HR.out.cell 4 (by omega)
    have ek := HR.out.en k hk
    rw [HE.out] at ek
    have HB := hide hbw
    have HO := hide hown
    have hki : (k : Int) < (es.length : Int) := by omega
    have hk0 : (0 : Int) ≤ (k : Int) := by omega
    have hml := mems_le es k m
    clear hbw hown
    by_cases hlt : k + 1 + m < E
    · have n1 := HR.out.nm (k + 1 + m) (by omega)
      have p1 := HR.out.pa (k + 1 + m) (by omega)
      have HN : Hid (mems es k (m + 1) = mems es k m ++ (if (at_ es (k + 1 + m)).nm = true ∧ (at_ es (k + 1 + m)).pa = k then [k + 1 + m] else [])) := rfl
      have pb1 := (HF.out (k + 1 + m) (by omega)).1
      have pb2 := (HF.out (k + 1 + m) (by omega)).2
      generalize (at_ es (k + 1 + m)).nm = nb at n1 HN
      generalize (at_ es (k + 1 + m)).pa = pb at p1 HN pb1 pb2
      generalize hx : k + 1 + m = x at *
      have hxi : (x : Int) < (es.length : Int) := by omega
      have hx0 : (0 : Int) ≤ (x : Int) := by omega
      have hxE : (x : Int) < (E : Int) := by omega
      cases nb
      · have HN2 : Hid (mems es k (m + 1) = mems es k m) := by show _ = _; rw [HN.out]; simp
        clear HN
        go_wp2
        exact ⟨⟨m + 1, by rw [← hx]; go_num, by omega, by rw [HN2.out]; exact HO.out, HB.out⟩, by simp [intOf]; omega⟩
      · by_cases hp : pb = (k : Int)
        · have HN2 : Hid (mems es k (m + 1) = mems es k m ++ [x]) := by show _ = _; rw [HN.out]; simp [hp]
          subst hp
          clear HN
          go_wp2_with (at_builtin; refine wpList_append_own _ rfl _ _ 49 rfl w.heap.size 3 i3 (.int .i64 0) 1 8 Tryz.underlying49 HI3.out hz3 hs3 hb3 rfl (by omega) _ _ _ rfl (HO.out.alloc _) ⟨wr.heap.size, 0, none⟩ 1 1 [.int .i64 (x : Int)] rfl rfl (cell_one _ _ _) ?h1 ?h63 ?hby ?hbase ?_)
          case h1 => intro u hu; simp at hu; subst hu; rfl
          case h63 => unfold maxLen; omega
          case hby => omega
          case hbase => have := HB.out.size; simp; omega
          intro v' w1 hown' hgrow _
          go_wp2
          refine ⟨⟨m + 1, by rw [← hx]; go_num, by omega, ?_, ?_⟩, by simp [intOf]; omega⟩
          · rw [HN2.out]
            simpa [ints64] using hown'
          · have hsz := HB.out.size
            exact (HB.out.alloc hsz _).grown hgrow (by simp; omega) (fun kk hkk => (HO.out.lt kk hkk).1)
        · have HN2 : Hid (mems es k (m + 1) = mems es k m) := by show _ = _; rw [HN.out]; simp [hp]
          have hp' : (pb == (k : Int)) = false := by simpa using hp
          clear HN hp
          go_wp2
          exact ⟨⟨m + 1, by rw [← hx]; go_num, by omega, by rw [HN2.out]; exact HO.out, HB.out⟩, by simp [intOf]; omega⟩
    · have hge : ¬ ((k + 1 + m : Nat) : Int) < (E : Int) := by omega
      have hmE : m = E - (k + 1) := by omega
      have HOx : Hid (wr.ownsRow w.heap.size 3 1 u5 (mems es k (E - (k + 1))).length (ints64 (mems es k (E - (k + 1))))) := by
        rw [← hmE]
        exact HO
      generalize hx : k + 1 + m = x at *
      clear hmE
      go_wp2
      go_ret
      exact ⟨⟨_, rfl, HOx.out⟩, HB.out⟩

end Go.Proofs.Qxb6616638aGreatFmt
