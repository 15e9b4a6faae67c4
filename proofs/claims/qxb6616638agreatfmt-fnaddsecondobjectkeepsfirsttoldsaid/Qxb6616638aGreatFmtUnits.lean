/-
  THE WALK of zzUnits.
-/
import Derived.Test.Qxb6616638aGreatFmtCmpU
import Derived.Test.Qxb6616638aGreatFmtCheck2
import Derived.Laws.BitsAllLaws
import Derived.Deep.Cut
namespace Go.Proofs.Qxb6616638aGreatFmt
open Go.RowKit
open Plain
set_option linter.unusedVariables false
set_option maxRecDepth 100000

theorem info93 : ∃ i, Tryz.prog.info? 93 = some i ∧ i.zero = some (.int .u16 0) ∧ i.size = 1 ∧ i.bytes = 2 := by
  have h : (Tryz.prog.info? 93).map (fun i => (i.zero, i.size, i.bytes)) = some (some (.int .u16 0), 1, 2) := by kernel_rfl
  obtain ⟨i, hi, hz⟩ := Option.map_eq_some_iff.1 h
  simp only [Prod.mk.injEq] at hz
  exact ⟨i, hi, hz.1, hz.2.1, hz.2.2⟩

namespace Plain
theorem units_append (bs : Nat → Nat) (l q : Nat) : ∀ (ls : List Nat) (p : Nat), Chars bs p ls q → units bs p (ls ++ [l]) = units bs p ls ++ un (cp bs q l)
  | [], p, h => by
    simp only [Chars] at h
    subst h
    simp [units]
  | m :: ls, p, h => by
    rw [List.cons_append, units, units, units_append bs l q ls (p + m) h.2]
    simp

theorem units_length (bs : Nat → Nat) : ∀ (ls : List Nat) (p q : Nat), Chars bs p ls q → (units bs p ls).length ≤ 2 * (q - p)
  | [], p, q, h => by simp [units]
  | m :: ls, p, q, h => by
    have h1 := units_length bs ls (p + m) q h.2
    have h2 := Chars.le h.2
    have h3 := h.1.1.pos
    have h4 : (un (cp bs p m)).length ≤ 2 := by unfold un; split <;> simp
    rw [units]
    simp
    omega
end Plain

namespace Plain
/-- The code point as it is built up: m bytes of l are in. -/
def pc (bs : Nat → Nat) (p l : Nat) : Nat → Nat
  | 0 => 0
  | 1 => if l = 1 then bs p else if l = 2 then bs p % 32 else if l = 3 then bs p % 16 else bs p % 8
  | m + 2 => pc bs p l (m + 1) * 64 + bs (p + (m + 1)) % 64
theorem pc_step (bs : Nat → Nat) (p l m : Nat) (h : 1 ≤ m) : pc bs p l (m + 1) = pc bs p l m * 64 + bs (p + m) % 64 := by
  obtain ⟨k, rfl⟩ : ∃ k, m = k + 1 := ⟨m - 1, by omega⟩
  rfl
theorem pc_lt (bs : Nat → Nat) (p l m : Nat) (h : 1 ≤ m) (hb : bs p < 256) (hl : l = 1 → bs p < 128) : m ≤ l → l ≤ 4 → pc bs p l m < (if l = 1 then 128 else if l = 2 then 32 * 64 ^ (m - 1) else if l = 3 then 16 * 64 ^ (m - 1) else 8 * 64 ^ (m - 1)) := by
  intro hm hl4
  have : l = 1 ∨ l = 2 ∨ l = 3 ∨ l = 4 := by omega
  have hm' : m = 1 ∨ m = 2 ∨ m = 3 ∨ m = 4 := by omega
  rcases this with rfl | rfl | rfl | rfl <;> rcases hm' with rfl | rfl | rfl | rfl <;> simp [pc] <;> omega
theorem pc_cp (bs : Nat → Nat) (p l : Nat) (h : Chr bs p l) : pc bs p l l = cp bs p l := by
  have hs := h.1
  unfold Sq at hs
  rcases hs with ⟨rfl, h1⟩ | ⟨rfl, h1⟩ | ⟨rfl, h1⟩ | ⟨rfl, h1⟩ <;> simp [pc, cp] <;> omega
theorem cp_lt (bs : Nat → Nat) (p l : Nat) (h : Chr bs p l) : cp bs p l < 1114112 := by
  have hs := h.1
  unfold Sq at hs
  rcases hs with ⟨rfl, h1⟩ | ⟨rfl, h1⟩ | ⟨rfl, h1⟩ | ⟨rfl, h1⟩ <;> simp [cp] <;> omega
end Plain

def ints16 (l : List Nat) : List Value := l.map (fun (x : Nat) => Value.int .u16 (x : Int))

/-- The bytes of one text lie at B from p on. -/
def Sub (w : World) (B p k : Nat) (bs : Nat → Nat) : Prop := ∀ i, i < k → w.cell? ⟨B, p + i, none⟩ = some (.int .u8 (bs (p + i) : Nat))

theorem or64 (pp xk : Nat) (h : pp < 32768) : bits .or .u32 ((pp : Int) * 64) ((xk : Int) % 64) = ((pp * 64 + xk % 64 : Nat) : Int) := by
  rw [show ((pp : Int) * 64) = ((pp * 64 : Nat) : Int) by omega, show ((xk : Int) % 64) = ((xk % 64 : Nat) : Int) by omega, u32_or_nat _ _ (by omega) (by omega), nat_join 6 (pp * 64) (xk % 64) (by omega) (by omega)]

theorem cell_two (w : World) (x y : Value) (t : TypeId) : ∀ j u, [x, y][j]? = some u → (w.alloc (.cells #[x, y] t)).cell? ((⟨w.heap.size, 0, none⟩ : Addr).add j) = some u := by
  intro j u hu
  match j with
  | 0 => simp at hu; subst hu; simp [Addr.add]
  | 1 => simp at hu; subst hu; simp [Addr.add]
  | j + 2 => simp at hu

set_option maxHeartbeats 4000000 in
theorem units_any (B p q cap : Nat) (bs : Nat → Nat) (ls : List Nat) (w : World) (hpq : q ≤ 16383) (hc : Chars bs p ls q) (hs : Sub w B p (q - p) bs) (hB : B < w.heap.size) (hb : ∀ i, p ≤ i → i < q → bs i < 256) :
    Calls Tryz.prog 23 #[.slice (some ⟨B, p, none⟩) (q - p : Nat) cap] w fun e w' => (∃ v, e = .returned v ∧ w'.ownsRow w.heap.size 93 1 v (units bs p ls).length (ints16 (units bs p ls))) ∧ Below w.heap.size w w' := by
  obtain ⟨i93, hi93, hz93, hs93, hb93⟩ := info93
  have HI := hide hi93
  have HC := hide hc
  have HS := hide hs
  have HBB := hide hb
  clear hi93 hc hs hb
  have hle := Chars.le HC.out
  go_enter Tryz.func23, Tryz.ntmps23
  go_wp2
  go_loopw [3, 4] (fun v t wr => ∃ (j : Nat) (l1 l2 : List Nat), t = .int .i64 j ∧ ls = l1 ++ l2 ∧ Chars bs p l1 (p + j) ∧ Chars bs (p + j) l2 q ∧ wr.ownsRow w.heap.size 93 1 v (units bs p l1).length (ints16 (units bs p l1)) ∧ Below w.heap.size w wr) (fun _ t _ => 20000 - (intOf t).toNat)
  case atStart => exact ⟨0, [], ls, rfl, rfl, rfl, HC.out, (by simpa [units, ints16] using World.ownsRow_nil w w.heap.size 93 1), Below.refl _ _⟩
  case round =>
    obtain ⟨j, l1, l2, rfl, hls, hc1, hc2, hown, hbw⟩ := hrel
    have HLS := hide hls
    have HC1 := hide hc1
    have HC2 := hide hc2
    have HO := hide hown
    have HB := hide hbw
    have hlen := units_length bs l1 p (p + j) hc1
    clear hls hc1 hc2 hown hbw
    cases l2 with
    | nil =>
      have he : p + j = q := HC2.out
      have HF : Hid (ls = l1) := by show _ = _; rw [HLS.out]; simp
      have hd : ¬ (j : Int) < ((q - p : Nat) : Int) := by omega
      go_wp2
      go_ret
      refine ⟨⟨_, rfl, ?_⟩, HB.out⟩
      rw [HF.out]
      exact HO.out
    | cons l l2 =>
      have hle2 := Chars.le HC2.out.2
      have hlp := HC2.out.1.1.pos
      have HW : Hid (∀ i, i < q - p → wr.cell? ⟨B, p + i, none⟩ = some (.int .u8 (bs (p + i) : Nat))) := fun i hi => (HB.out.cell (p := ⟨B, p + i, none⟩) hB).trans (HS.out i hi)
      have c0 := HW.out j (by omega)
      have hx := HBB.out (p + j) (by omega) (by omega)
      obtain ⟨x0, hx0⟩ : ∃ x0, x0 = bs (p + j) := ⟨_, rfl⟩
      have HX0 := hide hx0
      rw [← hx0] at c0 hx
      have hd : (j : Int) < ((q - p : Nat) : Int) := by omega
      have hsq := HC2.out.1.1
      unfold Sq at hsq
      rw [← hx0] at hsq
      clear hx0
      have hl4 : l ≤ 4 := by omega
      have HX1 : Hid (l = 1 → x0 < 128) := by intro h; omega
      have HP : Hid (∀ m, 1 ≤ m → m < l → pc bs (p + j) l (m + 1) = pc bs (p + j) l m * 64 + bs (p + (j + m)) % 64 ∧ pc bs (p + j) l m < 32768) := by
        intro m h1 h2
        refine ⟨by rw [pc_step _ _ _ _ h1, Nat.add_assoc], ?_⟩
        have h3 := pc_lt bs (p + j) l m h1 (by rw [← HX0.out]; exact hx) (by rw [← HX0.out]; exact fun _ => HX1.out (by trivial)) (by omega) hl4
        have h4 : l = 2 ∨ l = 3 ∨ l = 4 := by omega
        have h5 : m = 1 ∨ m = 2 ∨ m = 3 := by omega
        rcases h4 with rfl | rfl | rfl <;> rcases h5 with rfl | rfl | rfl <;> simp at h3 <;> omega
      rcases hsq with ⟨hl, hsq⟩ | ⟨hl, hsq⟩ | ⟨hl, hsq⟩ | ⟨hl, hsq⟩
      · have h1 : ¬ 240 ≤ (x0 : Int) := by omega
        have h2 : ¬ 224 ≤ (x0 : Int) := by omega
        have h3 : ¬ 192 ≤ (x0 : Int) := by omega
        have HPP : Hid (x0 = cp bs (p + j) 1) := by show _ = _; rw [HX0.out]; simp [cp]
        have hcl : x0 < 128 := hsq
        clear hsq
        subst hl
        obtain ⟨pp, rfl⟩ : ∃ pp, pp = x0 := ⟨_, rfl⟩
        go_wp2
        go_loop [6, 8] (fun r m => r = .int .u32 (pp : Int) ∧ m = .int .i64 1) (fun r m => 0)
        case atStart => exact ⟨rfl, rfl⟩
        case round =>
          obtain ⟨rfl, rfl⟩ := hrel
          have hpl' : ¬ (65536 : Int) ≤ (pp : Int) := by omega
          have HU : Hid (un (cp bs (p + j) 1) = [pp]) := by show _ = _; rw [← HPP.out, un, if_neg (by omega)]
          go_wp2_with (at_builtin; go_loud (refine wpList_append_own _ rfl _ _ 74 rfl w.heap.size 93 i93 (.int .u16 0) 1 2 Tryz.underlying74 HI.out hz93 hs93 hb93 rfl (by omega) _ _ _ rfl (HO.out.alloc _) ⟨wr.heap.size, 0, none⟩ 1 1 [_] rfl rfl (cell_one _ _ _) ?h1 ?h63 ?hby ?hbase ?_))
          case h1 => first | rfl | (intro u hu; simp at hu; subst hu; rfl)
          case h63 => unfold maxLen; omega
          case hby => omega
          case hbase => have := HB.out.size; simp; omega
          intro v' w1 hown' hgrow _
          go_wp2
          refine ⟨⟨j + 1, l1 ++ [1], l2, by go_num, by rw [HLS.out]; simp, ?_, ?_, ?_, ?_⟩, by simp [intOf]; omega⟩
          · rw [show p + (j + 1) = p + j + 1 by omega]; exact HC1.out.snoc HC2.out.1
          · rw [show p + (j + 1) = p + j + 1 by omega]; exact HC2.out.2
          · rw [units_append bs 1 (p + j) l1 p HC1.out, HU.out]
            simpa [ints16] using hown'
          · have hsz := HB.out.size
            exact (HB.out.alloc hsz _).grown hgrow (by simp; omega) (fun kk hkk => (HO.out.lt kk hkk).1)
      · have h1 : ¬ 240 ≤ (x0 : Int) := by omega
        have h2 : ¬ 224 ≤ (x0 : Int) := by omega
        have h3 : 192 ≤ (x0 : Int) := by omega
        have HQ : Hid ((x0 : Int) % 32 = (pc bs (p + j) l 1 : Nat)) := by show _ = _; rw [HX0.out, hl]; simp [pc]
        have hbd : cp bs (p + j) l < 65536 := by
          have h := HC2.out.1.1
          unfold Sq at h
          rw [hl] at h ⊢
          simp [cp]
          omega
        have HBD := hide hbd
        clear hbd
        clear hsq
        have a31 := u8_and31 (x := (x0 : Int)) (by omega) (by omega)
        go_wp2
        go_loop [6, 8] (fun r m => ∃ k : Nat, r = .int .u32 (pc bs (p + j) l k : Nat) ∧ m = .int .i64 k ∧ 1 ≤ k ∧ k ≤ l) (fun r m => l - (intOf m).toNat)
        case atStart => rw [HQ.out]; exact ⟨1, rfl, rfl, by omega, by omega⟩
        case round =>
          obtain ⟨k, rfl, rfl, hk1, hkl⟩ := hrel
          by_cases hk : k < l
          · have hki : (k : Int) < 2 := by omega
            have hkj : (j : Int) + (k : Int) < ((q - p : Nat) : Int) := by omega
            obtain ⟨hp1, hp2⟩ := HP.out k hk1 hk
            have HP1 := hide hp1
            clear hp1
            have ck := HW.out (j + k) (by omega)
            have hck := HBB.out (p + (j + k)) (by omega) (by omega)
            obtain ⟨xk, hxk⟩ : ∃ xk, xk = bs (p + (j + k)) := ⟨_, rfl⟩
            have HXK := hide hxk
            rw [← hxk] at ck hck
            clear hxk
            have a63 := u8_and63 (x := (xk : Int)) (by omega) (by omega)
            generalize hpp : pc bs (p + j) l k = pp at hp2
            have HPP := hide hpp
            clear hpp
            go_wp2
            refine ⟨⟨k + 1, ?_, by go_num, by omega, by omega⟩, by simp [intOf]; omega⟩
            rw [HP1.out, HPP.out, ← HXK.out, or64 pp xk (by omega)]
          · have hki : ¬ (k : Int) < 2 := by omega
            obtain rfl : k = l := by omega
            rw [show pc bs (p + j) k k = cp bs (p + j) k from pc_cp _ _ _ HC2.out.1]
            have hcl := HBD.out
            obtain ⟨pp, hpp⟩ : ∃ pp, pp = cp bs (p + j) k := ⟨_, rfl⟩
            have HPP := hide hpp
            rw [← hpp] at hcl ⊢
            clear hpp HQ HBD
            subst hl
            clear hk hkl hk1 hki HP
            have hpl' : ¬ (65536 : Int) ≤ (pp : Int) := by omega
            have HU : Hid (un (cp bs (p + j) 2) = [pp]) := by show _ = _; rw [← HPP.out, un, if_neg (by omega)]
            go_wp2_with (at_builtin; go_loud (refine wpList_append_own _ rfl _ _ 74 rfl w.heap.size 93 i93 (.int .u16 0) 1 2 Tryz.underlying74 HI.out hz93 hs93 hb93 rfl (by omega) _ _ _ rfl (HO.out.alloc _) ⟨wr.heap.size, 0, none⟩ 1 1 [_] rfl rfl (cell_one _ _ _) ?h1 ?h63 ?hby ?hbase ?_))
            case h1 => first | rfl | (intro u hu; simp at hu; subst hu; rfl)
            case h63 => unfold maxLen; omega
            case hby => omega
            case hbase => have := HB.out.size; simp; omega
            intro v' w1 hown' hgrow _
            go_wp2
            refine ⟨⟨j + 2, l1 ++ [2], l2, by go_num, by rw [HLS.out]; simp, ?_, ?_, ?_, ?_⟩, by simp [intOf]; omega⟩
            · rw [show p + (j + 2) = p + j + 2 by omega]; exact HC1.out.snoc HC2.out.1
            · rw [show p + (j + 2) = p + j + 2 by omega]; exact HC2.out.2
            · rw [units_append bs 2 (p + j) l1 p HC1.out, HU.out]
              simpa [ints16] using hown'
            · have hsz := HB.out.size
              exact (HB.out.alloc hsz _).grown hgrow (by simp; omega) (fun kk hkk => (HO.out.lt kk hkk).1)
      · have h1 : ¬ 240 ≤ (x0 : Int) := by omega
        have h2 : 224 ≤ (x0 : Int) := by omega
        have HQ : Hid ((x0 : Int) % 16 = (pc bs (p + j) l 1 : Nat)) := by show _ = _; rw [HX0.out, hl]; simp [pc]
        have hbd : cp bs (p + j) l < 65536 := by
          have h := HC2.out.1.1
          unfold Sq at h
          rw [hl] at h ⊢
          simp [cp]
          omega
        have HBD := hide hbd
        clear hbd
        clear hsq
        have a15 := u8_and15 (x := (x0 : Int)) (by omega) (by omega)
        go_wp2
        go_loop [6, 8] (fun r m => ∃ k : Nat, r = .int .u32 (pc bs (p + j) l k : Nat) ∧ m = .int .i64 k ∧ 1 ≤ k ∧ k ≤ l) (fun r m => l - (intOf m).toNat)
        case atStart => rw [HQ.out]; exact ⟨1, rfl, rfl, by omega, by omega⟩
        case round =>
          obtain ⟨k, rfl, rfl, hk1, hkl⟩ := hrel
          by_cases hk : k < l
          · have hki : (k : Int) < 3 := by omega
            have hkj : (j : Int) + (k : Int) < ((q - p : Nat) : Int) := by omega
            obtain ⟨hp1, hp2⟩ := HP.out k hk1 hk
            have HP1 := hide hp1
            clear hp1
            have ck := HW.out (j + k) (by omega)
            have hck := HBB.out (p + (j + k)) (by omega) (by omega)
            obtain ⟨xk, hxk⟩ : ∃ xk, xk = bs (p + (j + k)) := ⟨_, rfl⟩
            have HXK := hide hxk
            rw [← hxk] at ck hck
            clear hxk
            have a63 := u8_and63 (x := (xk : Int)) (by omega) (by omega)
            generalize hpp : pc bs (p + j) l k = pp at hp2
            have HPP := hide hpp
            clear hpp
            go_wp2
            refine ⟨⟨k + 1, ?_, by go_num, by omega, by omega⟩, by simp [intOf]; omega⟩
            rw [HP1.out, HPP.out, ← HXK.out, or64 pp xk (by omega)]
          · have hki : ¬ (k : Int) < 3 := by omega
            obtain rfl : k = l := by omega
            rw [show pc bs (p + j) k k = cp bs (p + j) k from pc_cp _ _ _ HC2.out.1]
            have hcl := HBD.out
            obtain ⟨pp, hpp⟩ : ∃ pp, pp = cp bs (p + j) k := ⟨_, rfl⟩
            have HPP := hide hpp
            rw [← hpp] at hcl ⊢
            clear hpp HQ HBD
            subst hl
            clear hk hkl hk1 hki HP
            have hpl' : ¬ (65536 : Int) ≤ (pp : Int) := by omega
            have HU : Hid (un (cp bs (p + j) 3) = [pp]) := by show _ = _; rw [← HPP.out, un, if_neg (by omega)]
            go_wp2_with (at_builtin; go_loud (refine wpList_append_own _ rfl _ _ 74 rfl w.heap.size 93 i93 (.int .u16 0) 1 2 Tryz.underlying74 HI.out hz93 hs93 hb93 rfl (by omega) _ _ _ rfl (HO.out.alloc _) ⟨wr.heap.size, 0, none⟩ 1 1 [_] rfl rfl (cell_one _ _ _) ?h1 ?h63 ?hby ?hbase ?_))
            case h1 => first | rfl | (intro u hu; simp at hu; subst hu; rfl)
            case h63 => unfold maxLen; omega
            case hby => omega
            case hbase => have := HB.out.size; simp; omega
            intro v' w1 hown' hgrow _
            go_wp2
            refine ⟨⟨j + 3, l1 ++ [3], l2, by go_num, by rw [HLS.out]; simp, ?_, ?_, ?_, ?_⟩, by simp [intOf]; omega⟩
            · rw [show p + (j + 3) = p + j + 3 by omega]; exact HC1.out.snoc HC2.out.1
            · rw [show p + (j + 3) = p + j + 3 by omega]; exact HC2.out.2
            · rw [units_append bs 3 (p + j) l1 p HC1.out, HU.out]
              simpa [ints16] using hown'
            · have hsz := HB.out.size
              exact (HB.out.alloc hsz _).grown hgrow (by simp; omega) (fun kk hkk => (HO.out.lt kk hkk).1)
      · have h1 : 240 ≤ (x0 : Int) := by omega
        have HQ : Hid ((x0 : Int) % 8 = (pc bs (p + j) l 1 : Nat)) := by show _ = _; rw [HX0.out, hl]; simp [pc]
        have hbd : 65536 ≤ cp bs (p + j) l ∧ cp bs (p + j) l < 1114112 := by
          have h := HC2.out.1.1
          unfold Sq at h
          rw [hl] at h ⊢
          simp [cp]
          omega
        have HBD := hide hbd
        clear hbd
        clear hsq
        have a7 := u8_and7 (x := (x0 : Int)) (by omega) (by omega)
        go_wp2
        go_loop [6, 8] (fun r m => ∃ k : Nat, r = .int .u32 (pc bs (p + j) l k : Nat) ∧ m = .int .i64 k ∧ 1 ≤ k ∧ k ≤ l) (fun r m => l - (intOf m).toNat)
        case atStart => rw [HQ.out]; exact ⟨1, rfl, rfl, by omega, by omega⟩
        case round =>
          obtain ⟨k, rfl, rfl, hk1, hkl⟩ := hrel
          by_cases hk : k < l
          · have hki : (k : Int) < 4 := by omega
            have hkj : (j : Int) + (k : Int) < ((q - p : Nat) : Int) := by omega
            obtain ⟨hp1, hp2⟩ := HP.out k hk1 hk
            have HP1 := hide hp1
            clear hp1
            have ck := HW.out (j + k) (by omega)
            have hck := HBB.out (p + (j + k)) (by omega) (by omega)
            obtain ⟨xk, hxk⟩ : ∃ xk, xk = bs (p + (j + k)) := ⟨_, rfl⟩
            have HXK := hide hxk
            rw [← hxk] at ck hck
            clear hxk
            have a63 := u8_and63 (x := (xk : Int)) (by omega) (by omega)
            generalize hpp : pc bs (p + j) l k = pp at hp2
            have HPP := hide hpp
            clear hpp
            go_wp2
            refine ⟨⟨k + 1, ?_, by go_num, by omega, by omega⟩, by simp [intOf]; omega⟩
            rw [HP1.out, HPP.out, ← HXK.out, or64 pp xk (by omega)]
          · have hki : ¬ (k : Int) < 4 := by omega
            obtain rfl : k = l := by omega
            rw [show pc bs (p + j) k k = cp bs (p + j) k from pc_cp _ _ _ HC2.out.1]
            have hcl := HBD.out
            obtain ⟨pp, hpp⟩ : ∃ pp, pp = cp bs (p + j) k := ⟨_, rfl⟩
            have HPP := hide hpp
            rw [← hpp] at hcl ⊢
            clear hpp HQ HBD
            subst hl
            clear hk hkl hk1 hki HP
            have hpl' : (65536 : Int) ≤ (pp : Int) := by omega
            have HU : Hid (un (cp bs (p + j) 4) = [55296 + (pp - 65536) / 1024, 56320 + (pp - 65536) % 1024]) := by show _ = _; rw [← HPP.out, un, if_pos (by omega)]
            have b1 : bits .and .u32 ((pp : Int) - 65536) 1023 = ((pp : Int) - 65536) % 1024 := by
              rw [show ((pp : Int) - 65536) = ((pp - 65536 : Nat) : Int) by omega, show (1023 : Int) = ((1023 : Nat) : Int) by rfl, u32_and_nat _ _ (by omega) (by omega), nat_mask10]
              omega
            go_wp2_with (at_builtin; go_loud (refine wpList_append_own _ rfl _ _ 74 rfl w.heap.size 93 i93 (.int .u16 0) 1 2 Tryz.underlying74 HI.out hz93 hs93 hb93 rfl (by omega) _ _ _ rfl (HO.out.alloc _) ⟨wr.heap.size, 0, none⟩ 2 2 [_, _] rfl rfl (cell_two _ _ _ _) ?h1 ?h63 ?hby ?hbase ?_))
            case h1 => exact ⟨rfl, rfl⟩
            case h63 => unfold maxLen; omega
            case hby => omega
            case hbase => have := HB.out.size; simp; omega
            intro v' w1 hown' hgrow _
            go_wp2
            refine ⟨⟨j + 4, l1 ++ [4], l2, by go_num, by rw [HLS.out]; simp, ?_, ?_, ?_, ?_⟩, by simp [intOf]; omega⟩
            · rw [show p + (j + 4) = p + j + 4 by omega]; exact HC1.out.snoc HC2.out.1
            · rw [show p + (j + 4) = p + j + 4 by omega]; exact HC2.out.2
            · rw [units_append bs 4 (p + j) l1 p HC1.out, HU.out]
              have e1 : ((55296 + (pp - 65536) / 1024 : Nat) : Int) = 55296 + ((pp : Int) - 65536) / 1024 := by omega
              have e2 : ((56320 + (pp - 65536) % 1024 : Nat) : Int) = 56320 + ((pp : Int) - 65536) % 1024 := by omega
              simp only [ints16, List.map_append, List.map_cons, List.map_nil, e1, e2, List.length_append, List.length_cons, List.length_nil]
              simpa [ints16] using hown'
            · have hsz := HB.out.size
              exact (HB.out.alloc hsz _).grown hgrow (by simp; omega) (fun kk hkk => (HO.out.lt kk hkk).1)

end Go.Proofs.Qxb6616638aGreatFmt
