/-
  THE WALKS: Kind.String, zzParseKindName.
-/
import Derived.Test.Qxb6617676aDoorRows
import Derived.Test.Qxb6617676aDoorShelf
import Derived.Test.Qxb6617676aDoorLaw
import Derived.WalkKit
import Derived.WalkSpells
import Derived.WalkSmall
import Derived.Deep.Cut
namespace Go.Proofs.Qxb6617676aDoor
open Go.RowKit
open Plain

/-- The table of powers of ten, as strconv's text lays it. -/
def TabOk (w : World) : Prop := Lib.TabIs Tryd.prog w (Rows.fnKindStringNamesEachKindOnceRow.named.headD "") .u64 Lib.pow10Tab

theorem ret_str {a b : ByteArray} (h : a = b) : Ending.returned (.string a) = .returned (.string b) := by rw [h]

theorem below_grown (w : World) (n : Nat) (os : Array Obj) : Below w.heap.size w (Sort.grow (w.drewN n) os) :=
  ⟨rfl, rfl, rfl, by simp [Sort.grow], fun i hi => by
    show (w.heap ++ os)[i]? = _
    rw [Array.getElem?_append_left hi]⟩

theorem itoa_any (k : Nat) (hk : k < 256) (w : World) (htab : TabOk w) :
    Calls Tryd.prog 6 #[.int .i64 k] w fun e w' => e = .returned (.string (digits k)) ∧ Below w.heap.size w w' := by
  refine (Any.strconv_Itoa Tryd.laysM171 (k : Int) (by omega) (by omega) w htab).mono ?_
  rintro e w' ⟨rfl, n, os, rfl⟩
  exact ⟨rfl, below_grown w n os⟩

theorem string_any (k : Nat) (hk : k < 256) (w : World) (htab : TabOk w) :
    Calls Tryd.prog 4 #[.int .u8 k] w fun e w' => e = .returned (.string (nm k)) ∧ Below w.heap.size w w' := by
  by_cases h1 : k = 1
  · subst h1
    clear htab
    go_enter Tryd.func4, Tryd.ntmps4
    go_wp2
    go_ret
    exact ⟨rfl, Below.refl _ _⟩
  by_cases h2 : k = 2
  · subst h2
    clear htab
    go_enter Tryd.func4, Tryd.ntmps4
    go_wp2
    go_ret
    exact ⟨rfl, Below.refl _ _⟩
  by_cases h3 : k = 3
  · subst h3
    clear htab
    go_enter Tryd.func4, Tryd.ntmps4
    go_wp2
    go_ret
    exact ⟨rfl, Below.refl _ _⟩
  have HN : Hid (nm k = ⟨#[75, 105, 110, 100, 40]⟩ ++ digits k ++ ⟨#[41]⟩) := by
    unfold nm
    rw [if_neg h1, if_neg h2, if_neg h3]
    rfl
  have n1 : ((k : Int) == 1) = false := by simp; omega
  have n2 : ((k : Int) == 2) = false := by simp; omega
  have n3 : ((k : Int) == 3) = false := by simp; omega
  have hd := (digits_of k hk).few
  clear h1 h2 h3
  go_enter Tryd.func4, Tryd.ntmps4
  go_wp2_with fail
  refine (itoa_any k hk _ htab).mono ?_
  rintro e w' ⟨rfl, hb⟩
  go_wp2
  go_ret
  exact ⟨ret_str HN.out.symm, hb⟩

theorem parse_keep (w : World) : Calls Tryd.prog 5 #[.string keep] w fun e w' => e = .returned (.tuple #[.int .u8 1, .bool true]) ∧ w' = w := by
  unfold keep
  go_enter Tryd.func5, Tryd.ntmps5
  go_wp2
  go_ret2
  exact ⟨rfl, rfl⟩

theorem parse_ike (w : World) : Calls Tryd.prog 5 #[.string ike] w fun e w' => e = .returned (.tuple #[.int .u8 2, .bool true]) ∧ w' = w := by
  unfold ike
  go_enter Tryd.func5, Tryd.ntmps5
  go_wp2
  go_ret2
  exact ⟨rfl, rfl⟩

theorem parse_esp (w : World) : Calls Tryd.prog 5 #[.string esp] w fun e w' => e = .returned (.tuple #[.int .u8 3, .bool true]) ∧ w' = w := by
  unfold esp
  go_enter Tryd.func5, Tryd.ntmps5
  go_wp2
  go_ret2
  exact ⟨rfl, rfl⟩

/-- The bytes of a numeric name. -/
theorem num_bytes (d s : ByteArray) (hs : s = ⟨#[75, 105, 110, 100, 40]⟩ ++ d ++ ⟨#[41]⟩) : s.data.toList = [75, 105, 110, 100, 40] ++ d.data.toList ++ [41] := by
  subst hs
  simp [ByteArray.data_append]

theorem num_facts (d s : ByteArray) (hs : s = ⟨#[75, 105, 110, 100, 40]⟩ ++ d ++ ⟨#[41]⟩) (hp : 1 ≤ d.size) (hf : d.size ≤ 3) :
    s.size = d.size + 6 ∧ (s.toList == [107, 101, 101, 112, 97, 108, 105, 118, 101]) = false ∧ (s.toList == [73, 75, 69]) = false ∧ (s.toList == [69, 83, 80]) = false ∧
    (∀ h : 0 < s.size, (s[0].toNat : Int) = 75) ∧ (∀ h : 1 < s.size, (s[1].toNat : Int) = 105) ∧ (∀ h : 2 < s.size, (s[2].toNat : Int) = 110) ∧ (∀ h : 3 < s.size, (s[3].toNat : Int) = 100) ∧ (∀ h : 4 < s.size, (s[4].toNat : Int) = 40) ∧
    (∀ h : s.size - 1 < s.size, ((s[s.size - 1].toNat : Int) != 41) = false) ∧ s.extract 5 (s.size - 1) = d := by
  have hl := num_bytes d s hs
  have hsz : s.size = d.size + 6 := by
    have := congrArg List.length hl
    simp at this
    omega
  have hget : ∀ i (h : i < s.size), s[i] = ([75, 105, 110, 100, 40] ++ d.data.toList ++ [41])[i]'(by rw [← hl]; simpa using h) := by
    intro i h
    have : s[i] = s.data.toList[i]'(by simpa using h) := rfl
    rw [this]
    simp only [hl]
  refine ⟨hsz, ?_, ?_, ?_, ?_, ?_, ?_, ?_, ?_, ?_, ?_⟩
  · rw [ByteArray.toList_eq, hl]; rfl
  · rw [ByteArray.toList_eq, hl]; rfl
  · rw [ByteArray.toList_eq, hl]; rfl
  · intro h; rw [hget]; rfl
  · intro h; rw [hget]; rfl
  · intro h; rw [hget]; rfl
  · intro h; rw [hget]; rfl
  · intro h; rw [hget]; rfl
  · intro h
    rw [hget]
    have : ([75, 105, 110, 100, 40] ++ d.data.toList ++ [41])[s.size - 1]'(by rw [← hl]; simpa using h) = 41 := by
      rw [List.getElem_append_right (by simp; omega)]
      simp
    rw [this]
    rfl
  · apply ByteArray.ext
    apply Array.ext'
    rw [ByteArray.data_extract, Array.toList_extract, hl, hsz]
    simp [List.extract_eq_take_drop]

/-- What the loop reads. -/
theorem dv_take (d : ByteArray) (i : Nat) (h : i < d.size) : dv (d.data.toList.take (i + 1)) = dv (d.data.toList.take i) * 10 + (d[i].toNat - 48) := by
  rw [List.take_succ_eq_append_getElem (by simpa using h), dv_snoc]
  rfl

theorem dv_le (l : List UInt8) : (∀ c ∈ l, c.toNat ≤ 57) → dv l < 10 ^ l.length := by
  intro h
  have key : ∀ (m : List UInt8), (∀ c ∈ m, c.toNat ≤ 57) → ∀ v, m.foldl (fun v c => v * 10 + (c.toNat - 48)) v < (v + 1) * 10 ^ m.length := by
    intro m
    induction m with
    | nil => intro _ v; simp
    | cons c m ih =>
      intro hm v
      have h1 := ih (fun x hx => hm x (List.mem_cons_of_mem _ hx)) (v * 10 + (c.toNat - 48))
      have h2 := hm c (List.mem_cons_self)
      simp only [List.foldl_cons, List.length_cons]
      refine Nat.lt_of_lt_of_le h1 ?_
      rw [Nat.pow_succ, Nat.mul_comm (10 ^ m.length) 10, ← Nat.mul_assoc]
      exact Nat.mul_le_mul_right _ (by omega)
  have := key l h 0
  simpa [dv] using this

set_option maxHeartbeats 400000 in
theorem parse_num (k : Nat) (d s : ByteArray) (hd : Digits d k) (hk : k < 256) (h1 : k ≠ 1) (h2 : k ≠ 2) (h3 : k ≠ 3) (hs : s = ⟨#[75, 105, 110, 100, 40]⟩ ++ d ++ ⟨#[41]⟩) (w : World) :
    Calls Tryd.prog 5 #[.string s] w fun e w' => e = .returned (.tuple #[.int .u8 k, .bool true]) ∧ w' = w := by
  have HD : Hid (Digits d k) := hd
  have dp := hd.pos
  have df := hd.few
  obtain ⟨hsz, e1, e2, e3, c0, c1, c2, c3, c4, c5, hx⟩ := num_facts d s hs dp df
  have z0 : 0 < s.size := by omega
  have z1 : 1 < s.size := by omega
  have z2 : 2 < s.size := by omega
  have z3 : 3 < s.size := by omega
  have z4 : 4 < s.size := by omega
  have z5 : s.size - 1 < s.size := by omega
  have z6 : (7 : Int) ≤ (s.size : Int) := by omega
  have z7 : (s.size : Int) ≤ 9 := by omega
  replace c0 := c0 z0
  replace c1 := c1 z1
  replace c2 := c2 z2
  replace c3 := c3 z3
  replace c4 := c4 z4
  replace c5 := c5 z5
  clear hs hd hsz
  go_enter Tryd.func5, Tryd.ntmps5
  go_upto_region 13 with (fail)
  clear e1 e2 e3 c0 c1 c2 c3 c4 c5 hx
  have k1 : ¬ ((1 : Int) ≤ (k : Int) ∧ (k : Int) ≤ 3) := by omega
  have hrest : ∀ m, m ≤ d.size → dv (d.data.toList.take m) < 1000 := by
    intro m hm
    have hlen : (d.data.toList.take m).length ≤ 3 := by
      have := List.length_take_le m d.data.toList
      omega
    have hb := dv_le (d.data.toList.take m) (fun c hc => by
      obtain ⟨i, hi, rfl⟩ := List.getElem_of_mem (List.mem_of_mem_take hc)
      have hi2 : i < d.size := by simpa using hi
      exact (HD.out.dig i hi2).2)
    exact Nat.lt_of_lt_of_le hb (Nat.le_trans (Nat.pow_le_pow_right (by omega) hlen) (by decide))
  have HR : Hid (∀ m, m ≤ d.size → dv (d.data.toList.take m) < 1000) := hrest
  have HV : Hid (dv (d.data.toList.take d.size) = k) := by
    have := HD.out.val
    rw [List.take_of_length_le (by simp)]
    exact this
  clear hrest h1 h2 h3
  by_cases hone : (1 : Int) < (d.size : Int)
  · have hl : (d[0].toNat : Int) ≠ 48 := by have := HD.out.lead (by omega) (by omega); omega
    have hl' : ((d[0].toNat : Int) == 48) = false := by simpa using hl
    clear hl
    go_wp2
    go_loop [5, 6] (fun v i => ∃ m : Nat, m ≤ d.size ∧ i = .int .i64 m ∧ v = .int .i64 (dv (d.data.toList.take m) : Nat)) (fun _ i => d.size - (intOf i).toNat)
    case atStart => exact ⟨0, Nat.zero_le _, rfl, rfl⟩
    case round =>
      obtain ⟨m, hm, rfl, rfl⟩ := hrel
      have hv := HR.out m hm
      by_cases hlt : m < d.size
      · have hv2 := HR.out (m + 1) hlt
        have HT : Hid (dv (d.data.toList.take (m + 1)) = dv (d.data.toList.take m) * 10 + (d[m].toNat - 48)) := dv_take d m hlt
        have hdg := HD.out.dig m hlt
        have g1 : (48 : Int) ≤ (d[m].toNat : Int) := by omega
        have g2 : (d[m].toNat : Int) ≤ 57 := by omega
        clear hdg
        generalize hV : dv (d.data.toList.take m) = V at hv HT
        have HVV : Hid (dv (d.data.toList.take m) = V) := hV
        clear hV hv2
        go_wp2
        go_round
        case rel => exact ⟨m + 1, by omega, by go_num, by rw [HT.out]; go_num⟩
        case measure => simp [intOf]; omega
      · have e : m = d.size := by omega
        have hval : dv (d.data.toList.take m) = k := by rw [e]; exact HV.out
        rw [hval] at hv ⊢
        clear hval hv e
        go_wp2
        all_goals go_ret2
        all_goals exact ⟨rfl, rfl⟩
  · go_wp2
    go_loop [5, 6] (fun v i => ∃ m : Nat, m ≤ d.size ∧ i = .int .i64 m ∧ v = .int .i64 (dv (d.data.toList.take m) : Nat)) (fun _ i => d.size - (intOf i).toNat)
    case atStart => exact ⟨0, Nat.zero_le _, rfl, rfl⟩
    case round =>
      obtain ⟨m, hm, rfl, rfl⟩ := hrel
      have hv := HR.out m hm
      by_cases hlt : m < d.size
      · have hv2 := HR.out (m + 1) hlt
        have HT : Hid (dv (d.data.toList.take (m + 1)) = dv (d.data.toList.take m) * 10 + (d[m].toNat - 48)) := dv_take d m hlt
        have hdg := HD.out.dig m hlt
        have g1 : (48 : Int) ≤ (d[m].toNat : Int) := by omega
        have g2 : (d[m].toNat : Int) ≤ 57 := by omega
        clear hdg
        generalize hV : dv (d.data.toList.take m) = V at hv HT
        have HVV : Hid (dv (d.data.toList.take m) = V) := hV
        clear hV hv2
        go_wp2
        go_round
        case rel => exact ⟨m + 1, by omega, by go_num, by rw [HT.out]; go_num⟩
        case measure => simp [intOf]; omega
      · have e : m = d.size := by omega
        have hval : dv (d.data.toList.take m) = k := by rw [e]; exact HV.out
        rw [hval] at hv ⊢
        clear hval hv e
        go_wp2
        all_goals go_ret2
        all_goals exact ⟨rfl, rfl⟩

end Go.Proofs.Qxb6617676aDoor
