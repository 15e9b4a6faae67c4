/-
  THE WALKS: lower, foldsTo, (*Glob).folded, ZZfolded, ZZnewGlob, zzBytes.
-/
import Derived.Test.Qxb6616198aRows
import Derived.Test.Qxb6616198aLaw
import Derived.WalkKit
import Derived.WalkSpells
import Derived.Laws.IdiomStrings
namespace Go.Proofs.Qxb6616198a
open Go.RowKit
open Plain

/-- 'lower' at a byte. -/
def lowI (c : Int) : Int := if 65 ≤ c ∧ c ≤ 90 then c + 32 else c

theorem lowI_byte (c : UInt8) : lowI (c.toNat : Int) = ((low c).toNat : Int) := by
  rw [low_toNat]
  unfold lowI
  split <;> split <;> omega

theorem ret_int {k : IntKind} {a b : Int} (h : a = b) : Ending.returned (.int k a) = .returned (.int k b) := by rw [h]

theorem lower_any (c : Int) (h0 : 0 ≤ c) (h1 : c < 256) (w : World) :
    Calls Try.prog 14 #[.int .i32 c] w fun e w' => e = .returned (.int .i32 (lowI c)) ∧ w' = w := by
  by_cases h2 : 65 ≤ c
  · by_cases h3 : c ≤ 90
    · have e : lowI c = c - 65 + 97 := by unfold lowI; rw [if_pos ⟨h2, h3⟩]; omega
      have E : Hid (lowI c = c - 65 + 97) := e
      clear e
      go_enter Try.func14, Try.ntmps14
      go_wp2
      go_ret
      exact ⟨ret_int E.out.symm, rfl⟩
    · have e : lowI c = c := by unfold lowI; rw [if_neg (by omega)]
      have E : Hid (lowI c = c) := e
      clear e
      go_enter Try.func14, Try.ntmps14
      go_wp2
      go_ret
      exact ⟨ret_int E.out.symm, rfl⟩
  · have e : lowI c = c := by unfold lowI; rw [if_neg (by omega)]
    have E : Hid (lowI c = c) := e
    clear e
    go_enter Try.func14, Try.ntmps14
    go_wp2
    go_ret
    exact ⟨ret_int E.out.symm, rfl⟩

theorem zzBytes_yes (f : Bool) (a b : ByteArray) (h : a.size + b.size ≤ 1048576) (w : World) :
    Calls Try.prog 8 #[.bool f, .string a, .string b] w fun e w' => e = .returned (.bool true) ∧ w' = w := by
  go_enter Try.func8, Try.ntmps8
  go_wp2
  go_ret
  exact ⟨rfl, rfl⟩

theorem zzBytes_no (f : Bool) (a b : ByteArray) (ha : a.size ≤ maxLen) (hb : b.size ≤ maxLen) (h : 1048576 < a.size + b.size) (w : World) :
    Calls Try.prog 8 #[.bool f, .string a, .string b] w fun e w' => e = .returned (.bool false) ∧ w' = w := by
  unfold maxLen at ha hb
  by_cases h1 : a.size ≤ 1048576
  · by_cases h2 : b.size ≤ 1048576
    · go_enter Try.func8, Try.ntmps8
      go_wp2
      go_ret
      exact ⟨rfl, rfl⟩
    · go_enter Try.func8, Try.ntmps8
      go_wp2
      go_ret
      exact ⟨rfl, rfl⟩
  · go_enter Try.func8, Try.ntmps8
    go_wp2
    go_ret
    exact ⟨rfl, rfl⟩

theorem ft_cap {f : Bool} {x y : Nat} (hx : y = if f = true ∧ 65 ≤ x ∧ x ≤ 90 then x + 32 else x) (h1 : f = true) (h2 : 65 ≤ (x : Int)) (h3 : (x : Int) ≤ 90) (h4 : ((y : Int) != (x : Int) + 32) = true) : False := by
  rw [if_pos ⟨h1, by omega, by omega⟩] at hx
  simp at h4
  omega
theorem ft_off {f : Bool} {x y : Nat} (hx : y = if f = true ∧ 65 ≤ x ∧ x ≤ 90 then x + 32 else x) (h1 : ¬ f = true) (h4 : ((y : Int) != (x : Int)) = true) : False := by
  rw [if_neg (by simp [h1])] at hx
  simp at h4
  omega
theorem ft_low {f : Bool} {x y : Nat} (hx : y = if f = true ∧ 65 ≤ x ∧ x ≤ 90 then x + 32 else x) (h2 : (x : Int) < 65) (h4 : ((y : Int) != (x : Int)) = true) : False := by
  rw [if_neg (by omega)] at hx
  simp at h4
  omega
theorem ft_high {f : Bool} {x y : Nat} (hx : y = if f = true ∧ 65 ≤ x ∧ x ≤ 90 then x + 32 else x) (h2 : 90 < (x : Int)) (h4 : ((y : Int) != (x : Int)) = true) : False := by
  rw [if_neg (by omega)] at hx
  simp at h4
  omega

/-- 'foldsTo' says yes of a text and its folding. -/
theorem foldsTo_yes (f : Bool) (s r : ByteArray) (hs : s.size ≤ 1048576) (hr : r.size = s.size)
    (hb : ∀ k (h : k < s.size) (h' : k < r.size), r[k].toNat = if f = true ∧ 65 ≤ s[k].toNat ∧ s[k].toNat ≤ 90 then s[k].toNat + 32 else s[k].toNat) (w : World) :
    Calls Try.prog 11 #[.bool f, .string s, .string r] w fun e w' => e = .returned (.bool true) ∧ w' = w := by
  have HR : Hid (r.size = s.size) := hr
  have HB : Hid (∀ k (h : k < s.size) (h' : k < r.size), r[k].toNat = if f = true ∧ 65 ≤ s[k].toNat ∧ s[k].toNat ≤ 90 then s[k].toNat + 32 else s[k].toNat) := hb
  have hne : ((r.size : Int) != (s.size : Int)) = false := by rw [hr]; simp
  clear hr hb
  go_enter Try.func11, Try.ntmps11
  go_wp2
  go_loop [7, 8] (fun i _ => ∃ k : Nat, k ≤ s.size ∧ i = .int .i64 k) (fun i _ => s.size - (intOf i).toNat)
  case atStart => exact ⟨0, Nat.zero_le _, rfl⟩
  case round =>
    obtain ⟨k, hk, rfl⟩ := hrel
    by_cases hlt : k < s.size
    · have hkr : k < r.size := by rw [HR.out]; exact hlt
      have hx := HB.out k hlt hkr
      have HX : Hid (r[k].toNat = if f = true ∧ 65 ≤ s[k].toNat ∧ s[k].toNat ≤ 90 then s[k].toNat + 32 else s[k].toNat) := hx
      clear hx
      go_wp2
      all_goals first
        | exact (ft_cap HX.out ‹_› ‹_› ‹_› ‹_›).elim
        | exact (ft_off HX.out ‹_› ‹_›).elim
        | exact (ft_low HX.out ‹_› ‹_›).elim
        | exact (ft_high HX.out ‹_› ‹_›).elim
        | (go_round
           case rel => exact ⟨k + 1, by omega, by go_num⟩
           case measure => simp [intOf]; omega)
    · go_wp2
      go_ret
      exact ⟨rfl, rfl⟩

theorem newGlob_any (f : Bool) (w : World) :
    Calls Try.prog 9 #[.bool f] w fun e w' => e = .returned (.pointer (some ⟨w.heap.size, 0, none⟩)) ∧ w'.cell? ⟨w.heap.size, 1, none⟩ = some (.bool f) ∧ w'.heap.size = w.heap.size + 1 ∧ Below w.heap.size w w' := by
  go_enter Try.func9, Try.ntmps9
  go_wp2
  go_ret
  exact ⟨rfl, by simp, by simp, (Below.refl _ _).alloc (Nat.le_refl _) _⟩

theorem folded_off (b : Nat) (s : ByteArray) (w : World) (hf : w.cell? ⟨b, 1, none⟩ = some (.bool false)) :
    Calls Try.prog 15 #[.pointer (some ⟨b, 0, none⟩), .string s] w fun e w' => e = .returned (.string s) ∧ w' = w := by
  go_enter Try.func15, Try.ntmps15
  go_wp2
  go_ret
  exact ⟨rfl, rfl⟩

/-- '[]byte(s)': a new row that holds the bytes. -/
theorem conv_bytes (s : ByteArray) (w : World) : ∃ (cap : Nat) (C : Array Value), (∀ j (h : j < s.size), C[j]? = some (.int .u8 (s[j].toNat : Int))) ∧ s.size ≤ C.size ∧
    (convert 9 46 (.string s)).run Try.prog w = .ok (.slice (some ⟨w.heap.size, 0, none⟩) s.size cap) (w.drew.alloc (.cells C 5 (C.size, C.size + 1))) :=
  ⟨_, _, fun j h => bytesRow_at s _ j h, by rw [← ByteArray.size_data]; simp [bytesRow], run_bytes_of_string w 9 46 5 s Try.underlying9 Try.underlying46 Try.underlying5⟩

/-- What one round does to the row. -/
theorem fold_step (s : ByteArray) (k : Nat) (hlt : k < s.size) (wr : World) (B : Nat) (x : Int) (hx : (s[k].toNat : Int) = x) (hl : lowI x = ((low s[k]).toNat : Int)) (hc : wr.cell? ⟨B, k, none⟩ = some (.int .u8 x))
    (hcl : ∀ j (h : j < s.size), wr.cell? ⟨B, j, none⟩ = some (.int .u8 ((if j < k then low s[j] else s[j]).toNat : Int))) (j : Nat) (h : j < s.size) :
    (wr.setCell ⟨B, k, none⟩ (.int .u8 (lowI x % 256))).cell? ⟨B, j, none⟩ = some (.int .u8 ((if j < k + 1 then low s[j] else s[j]).toNat : Int)) := by
  by_cases e : j = k
  · subst e
    rw [World.cell?_setCell_same _ _ _ hc, hl, if_pos (by omega)]
    have := UInt8.toNat_lt (low s[j])
    rw [Int.emod_eq_of_lt (by omega) (by omega)]
  · rw [World.cell?_setCell_other _ _ _ _ (by intro h2; injection h2; omega), hcl j h]
    by_cases e2 : j < k
    · rw [if_pos e2, if_pos (by omega)]
    · rw [if_neg e2, if_neg (by omega)]

/-- 'string(b)' of the row behind the loop. -/
theorem conv_back (s : ByteArray) (wr : World) (B cap : Nat) (hc : ∀ j (h : j < s.size), wr.cell? ⟨B, j, none⟩ = some (.int .u8 ((low s[j]).toNat : Int))) :
    (convert 46 9 (.slice (some ⟨B, 0, none⟩) s.size cap)).run Try.prog wr = .ok (.string (foldS true s)) wr := by
  have hl : (s.data.toList.map low).length = s.size := by simp
  have h := run_convert_bytes_back (P := Try.prog) wr 46 9 5 ⟨B, 0, none⟩ cap (s.data.toList.map low) Try.underlying46 Try.underlying5 Try.underlying9 (fun j hj => by
    have hj' : j < s.size := by rw [← hl]; exact hj
    have e : (⟨B, 0, none⟩ : Addr).add j = ⟨B, j, none⟩   := by unfold Addr.add; split <;> simp_all
    rw [e, hc j hj']
    simp
    rfl)
  rw [hl] at h
  rw [h]
  simp [foldS, fold]

theorem folded_on (b : Nat) (s : ByteArray) (w : World) (hs : s.size ≤ 1048576) (hf : w.cell? ⟨b, 1, none⟩ = some (.bool true)) :
    Calls Try.prog 15 #[.pointer (some ⟨b, 0, none⟩), .string s] w fun e w' => e = .returned (.string (foldS true s)) ∧ Below w.heap.size w w' := by
  obtain ⟨cap, C, hC, hCs, hconv⟩ := conv_bytes s w
  have HC : Hid (∀ j (h : j < s.size), C[j]? = some (.int .u8 (s[j].toNat : Int))) := hC
  clear hC
  go_enter Try.func15, Try.ntmps15
  go_wp2
  go_loopw [18] (fun t wr => ∃ k : Nat, k ≤ s.size ∧ t = .int .i64 k ∧ (∀ j (h : j < s.size), wr.cell? ⟨w.heap.size, j, none⟩ = some (.int .u8 ((if j < k then low s[j] else s[j]).toNat : Int))) ∧
      (∀ j, j < s.size → wr.frozen? ⟨w.heap.size, j, none⟩ = false) ∧ Below w.heap.size w wr) (fun t _ => s.size - (intOf t).toNat)
  case atStart =>
    refine ⟨0, Nat.zero_le _, rfl, fun j h => ?_, fun j h => ?_, ((Below.refl _ _).alloc (Nat.le_refl _) _).drew⟩
    · rw [World.cell?_drew, World.cell?_alloc_mark, HC.out j h]
      simp
    · rw [World.frozen?_drew, World.frozen?_alloc_mark]
      simp
      omega
  case round =>
    obtain ⟨k, hk, rfl, hcl, hfr, hbel⟩ := hrel
    have HCL : Hid (∀ j (h : j < s.size), wr.cell? ⟨w.heap.size, j, none⟩ = some (.int .u8 ((if j < k then low s[j] else s[j]).toNat : Int))) := hcl
    have HFR : Hid (∀ j, j < s.size → wr.frozen? ⟨w.heap.size, j, none⟩ = false) := hfr
    clear hcl hfr
    by_cases hlt : k < s.size
    · have hz := HFR.out k hlt
      have hc : wr.cell? ⟨w.heap.size, k, none⟩ = some (.int .u8 (s[k].toNat : Int)) := by
        have := HCL.out k hlt
        simpa using this
      have hx0 : 0 ≤ (s[k].toNat : Int) := by omega
      have hx1 : (s[k].toNat : Int) < 256 := by have := UInt8.toNat_lt s[k]; omega
      have HL : Hid (lowI (s[k].toNat : Int) = ((low s[k]).toNat : Int)) := lowI_byte _
      generalize hxe : (s[k].toNat : Int) = x at hc hx0 hx1 HL
      have HX : Hid ((s[k].toNat : Int) = x) := hxe
      clear hxe
      go_wp2_with (go_at_call 14; refine (lower_any _ hx0 hx1 _).mono ?_; rintro e w' ⟨rfl, rfl⟩)
      refine ⟨⟨k + 1, by omega, by go_num, fun j h => ?_, fun j h => ?_, hbel.setCell (Nat.le_refl _) _⟩, by simp [intOf]; omega⟩
      · exact fold_step s k hlt _ w.heap.size x HX.out HL.out hc HCL.out j h
      · rw [World.frozen?_setCell]
        exact HFR.out j h
    · have hback := conv_back s wr w.heap.size cap (fun j h => by rw [HCL.out j h, if_pos (by omega)])
      go_wp2
      go_ret
      exact ⟨rfl, hbel⟩

/-- '(*Glob).folded'. -/
theorem folded_any (f : Bool) (b : Nat) (s : ByteArray) (w : World) (hs : s.size ≤ 1048576) (hf : w.cell? ⟨b, 1, none⟩ = some (.bool f)) :
    Calls Try.prog 15 #[.pointer (some ⟨b, 0, none⟩), .string s] w fun e w' => e = .returned (.string (foldS f s)) ∧ Below w.heap.size w w' := by
  cases f
  · refine (folded_off b s w hf).mono ?_
    rintro e w' ⟨rfl, rfl⟩
    exact ⟨by rw [foldS_false], Below.refl _ _⟩
  · exact folded_on b s w hs hf

theorem zzfolded_any (f : Bool) (b : Nat) (s : ByteArray) (w : World) (hs : s.size ≤ 1048576) (hf : w.cell? ⟨b, 1, none⟩ = some (.bool f)) :
    Calls Try.prog 10 #[.pointer (some ⟨b, 0, none⟩), .string s] w fun e w' => e = .returned (.string (foldS f s)) ∧ Below w.heap.size w w' := by
  go_enter Try.func10, Try.ntmps10
  go_wp2_with fail
  refine (folded_any f b s _ hs hf).mono ?_
  rintro e w' ⟨rfl, hb⟩
  go_wp2
  go_ret
  exact ⟨rfl, hb⟩

end Go.Proofs.Qxb6616198a
