/-
  THE WALKS of the law's scanner: zzIsSpace, zzSkip, zzUTF8Len, zzStringEnd, zzWord, zzNumberEnd, zzScalarEnd.
-/
import Derived.Test.Qxb6616638aGreatFmtRows
import Derived.Test.Qxb6616638aGreatFmtUtf
import Derived.WalkKit
import Derived.WalkSpells
import Derived.WalkSmall
import Derived.Deep.QuietTactic
import Derived.BigQuiet
namespace Go.Proofs.Qxb6616638aGreatFmt
open Go.RowKit
open Plain
set_option linter.unusedVariables false
set_option maxRecDepth 100000

theorem hide {p : Prop} (h : p) : Hid p := h
theorem unhide {p : Prop} (h : Hid p) : p := h

theorem ret_int {k : IntKind} {a b : Int} (h : a = b) : Ending.returned (.int k a) = .returned (.int k b) := by rw [h]
theorem ret_bool {a b : Bool} (h : a = b) : Ending.returned (.bool a) = .returned (.bool b) := by rw [h]

/-- The text's bytes lie in block B from its head on. -/
def Txt (w : World) (B n : Nat) (bs : Nat → Nat) : Prop := ∀ i, i < n → w.cell? ⟨B, i, none⟩ = some (.int .u8 (bs i : Int)) ∧ bs i < 256

theorem Txt.at {w : World} {B n : Nat} {bs : Nat → Nat} (h : Txt w B n bs) (i : Nat) (hi : i < n) : w.cell? ⟨B, i, none⟩ = some (.int .u8 (bs i : Int)) := (h i hi).1
theorem Txt.lt {w : World} {B n : Nat} {bs : Nat → Nat} (h : Txt w B n bs) (i : Nat) (hi : i < n) : bs i < 256 := (h i hi).2

/-- 'the result is an int, and only draws were made' -/
def Gives (w : World) (p : Nat → Prop) (none_ : Prop) (e : Ending) (w' : World) : Prop :=
  ((∃ k : Nat, e = .returned (.int .i64 k) ∧ p k) ∨ (e = .returned (.int .i64 (-1)) ∧ none_)) ∧ ∃ q, w' = w.drewN q

theorem isSpace_any (c : Nat) (w : World) :
    Calls Tryz.prog 30 #[.int .u8 c] w fun e w' => (∃ b : Bool, e = .returned (.bool b)) ∧ w' = w := by
  go_enter Tryz.func30, Tryz.ntmps30
  go_wp2
  all_goals
    go_ret
    exact ⟨⟨_, rfl⟩, rfl⟩

theorem skip_any (B n cap i : Nat) (bs : Nat → Nat) (w : World) (hn : n ≤ 16383) (hi : i ≤ 16384) (ht : Txt w B n bs) :
    Calls Tryz.prog 19 #[.slice (some ⟨B, 0, none⟩) n cap, .int .i64 i] w fun e w' => (∃ j : Nat, e = .returned (.int .i64 j) ∧ i ≤ j ∧ (j ≤ n ∨ j = i)) ∧ w' = w := by
  have HT : Hid (Txt w B n bs) := ht
  clear ht
  go_enter Tryz.func19, Tryz.ntmps19
  go_wp2
  go_loop [1] (fun t => ∃ j : Nat, t = .int .i64 j ∧ i ≤ j ∧ (j ≤ n ∨ j = i)) (fun t => n - (intOf t).toNat)
  case atStart => exact ⟨i, rfl, Nat.le_refl _, .inr rfl⟩
  case round =>
    obtain ⟨j, rfl, hij, hj⟩ := hrel
    have HJ : Hid (j ≤ n ∨ j = i) := hj
    clear hj
    by_cases hlt : j < n
    · have hc := HT.out.at j hlt
      have hji : (j : Int) < (n : Int) := by omega
      have hj0 : (0 : Int) ≤ (j : Int) := by omega
      go_wp2_with fail
      refine (isSpace_any (bs j) _).mono ?_
      rintro e w' ⟨⟨b, rfl⟩, rfl⟩
      cases b
      · go_wp2
        go_ret
        exact ⟨⟨j, rfl, hij, HJ.out⟩, rfl⟩
      · go_wp2
        exact ⟨⟨j + 1, by go_num, by omega, .inl (by omega)⟩, by simp [intOf]; omega⟩
    · have hd : decide ((j : Int) < (n : Int)) = false := by simp; omega
      go_wp2
      go_ret
      exact ⟨⟨j, rfl, hij, HJ.out⟩, rfl⟩

/-- What zzUTF8Len gives: 0, or the length of a sequence that lies there. -/
def LenGives (bs : Nat → Nat) (n j : Nat) (w : World) (e : Ending) (w' : World) : Prop :=
  (∃ l : Nat, e = .returned (.int .i64 l) ∧ (l = 0 ∨ (Sq bs j l ∧ j + l ≤ n))) ∧ ∃ q, w' = w.drewN q



theorem utf_ascii (B n cap j : Nat) (bs : Nat → Nat) (w : World) (hn : n ≤ 16383) (hj : j < n) (ht : Txt w B n bs) (hc : bs j < 128) :
    Calls Tryz.prog 39 #[.slice (some ⟨B, 0, none⟩) n cap, .int .i64 j] w (LenGives bs n j w) := by
  have hcell := ht.at j hj
  have HT : Hid (Txt w B n bs) := ht
  have HC : Hid (bs j < 128) := hc
  have hji : (j : Int) < (n : Int) := by omega
  have hj0 : (0 : Int) ≤ (j : Int) := by omega
  clear ht
  generalize hx : bs j = x at hcell hc
  have HX : Hid (bs j = x) := hx
  clear hx
  have x1 : (x : Int) ≤ 127 := by omega
  have e224 : ((x : Int) == 224) = false := by simp; omega
  have e237 : ((x : Int) == 237) = false := by simp; omega
  have e240 : ((x : Int) == 240) = false := by simp; omega
  have e244 : ((x : Int) == 244) = false := by simp; omega
  clear hc
  go_enter Tryz.func39, Tryz.ntmps39
  go_wp2
  go_ret
  exact ⟨⟨1, rfl, .inr ⟨.inl ⟨rfl, HC.out⟩, by omega⟩⟩, 0, rfl⟩

theorem utf_low (B n cap j : Nat) (bs : Nat → Nat) (w : World) (hn : n ≤ 16383) (hj : j < n) (ht : Txt w B n bs) (hc : 128 ≤ bs j ∧ bs j ≤ 193) :
    Calls Tryz.prog 39 #[.slice (some ⟨B, 0, none⟩) n cap, .int .i64 j] w (LenGives bs n j w) := by
  have hcell := ht.at j hj
  have HT : Hid (Txt w B n bs) := ht
  have HC : Hid (128 ≤ bs j ∧ bs j ≤ 193) := hc
  have hji : (j : Int) < (n : Int) := by omega
  have hj0 : (0 : Int) ≤ (j : Int) := by omega
  clear ht
  generalize hx : bs j = x at hcell hc
  have HX : Hid (bs j = x) := hx
  clear hx
  have x0 : (128 : Int) ≤ (x : Int) := by omega
  have x1 : (x : Int) ≤ 193 := by omega
  have e224 : ((x : Int) == 224) = false := by simp; omega
  have e237 : ((x : Int) == 237) = false := by simp; omega
  have e240 : ((x : Int) == 240) = false := by simp; omega
  have e244 : ((x : Int) == 244) = false := by simp; omega
  clear hc
  go_enter Tryz.func39, Tryz.ntmps39
  go_wp2
  go_ret
  exact ⟨⟨0, rfl, .inl rfl⟩, 0, rfl⟩

theorem utf_high (B n cap j : Nat) (bs : Nat → Nat) (w : World) (hn : n ≤ 16383) (hj : j < n) (ht : Txt w B n bs) (hc : 245 ≤ bs j) :
    Calls Tryz.prog 39 #[.slice (some ⟨B, 0, none⟩) n cap, .int .i64 j] w (LenGives bs n j w) := by
  have hcell := ht.at j hj
  have HT : Hid (Txt w B n bs) := ht
  have HC : Hid (245 ≤ bs j) := hc
  have hji : (j : Int) < (n : Int) := by omega
  have hj0 : (0 : Int) ≤ (j : Int) := by omega
  clear ht
  generalize hx : bs j = x at hcell hc
  have HX : Hid (bs j = x) := hx
  clear hx
  have x0 : (245 : Int) ≤ (x : Int) := by omega
  have e224 : ((x : Int) == 224) = false := by simp; omega
  have e237 : ((x : Int) == 237) = false := by simp; omega
  have e240 : ((x : Int) == 240) = false := by simp; omega
  have e244 : ((x : Int) == 244) = false := by simp; omega
  clear hc
  go_enter Tryz.func39, Tryz.ntmps39
  go_wp2
  go_ret
  exact ⟨⟨0, rfl, .inl rfl⟩, 0, rfl⟩

set_option maxHeartbeats 1000000 in
theorem utf_u194 (B n cap j : Nat) (bs : Nat → Nat) (w : World) (hn : n ≤ 16383) (hj : j < n) (ht : Txt w B n bs) (hc : 194 ≤ bs j ∧ bs j ≤ 223) :
    Calls Tryz.prog 39 #[.slice (some ⟨B, 0, none⟩) n cap, .int .i64 j] w (LenGives bs n j w) := by
  have hcell := ht.at j hj
  have HT : Hid (Txt w B n bs) := ht
  have HC : Hid (194 ≤ bs j ∧ bs j ≤ 223) := hc
  have hji : (j : Int) < (n : Int) := by omega
  have hj0 : (0 : Int) ≤ (j : Int) := by omega
  clear ht
  generalize hx : bs j = x at hcell hc
  have HX : Hid (bs j = x) := hx
  clear hx
  have x0 : (194 : Int) ≤ (x : Int) := by omega
  have x1 : (x : Int) ≤ 223 := by omega
  have e224 : ((x : Int) == 224) = false := by simp; omega
  have e237 : ((x : Int) == 237) = false := by simp; omega
  have e240 : ((x : Int) == 240) = false := by simp; omega
  have e244 : ((x : Int) == 244) = false := by simp; omega
  clear hc
  by_cases hl : j + 2 ≤ n
  · have c1 := HT.out.at (j + 1) (by omega)
    have hgood : ∀ (_ : 128 ≤ bs (j + 1)) (_ : bs (j + 1) ≤ 191), Sq bs j 2 := by
      intros
      have hh := HC.out
      unfold Sq
      omega
    have HG := hide hgood
    clear hgood
    go_enter Tryz.func39, Tryz.ntmps39
    go_wp2
    · go_ret
      exact ⟨⟨0, rfl, .inl rfl⟩, 0, rfl⟩
    · have b1 : 128 ≤ bs (j + 1) ∧ bs (j + 1) ≤ 191 := by omega
      have HB1 := hide b1
      clear b1
      go_loop [9] (fun m => m = .int .i64 2) (fun m => 2 - (intOf m).toNat)
      case atStart => rfl
      case round =>
        subst hrel
        go_wp2
        go_ret
        exact ⟨⟨2, rfl, .inr ⟨unhide HG (unhide HB1).1 (unhide HB1).2, hl⟩⟩, 0, rfl⟩
    · go_ret
      exact ⟨⟨0, rfl, .inl rfl⟩, 0, rfl⟩
  · go_enter Tryz.func39, Tryz.ntmps39
    go_wp2
    go_ret
    exact ⟨⟨0, rfl, .inl rfl⟩, 0, rfl⟩

set_option maxHeartbeats 1000000 in
theorem utf_u224 (B n cap j : Nat) (bs : Nat → Nat) (w : World) (hn : n ≤ 16383) (hj : j < n) (ht : Txt w B n bs) (hc : bs j = 224) :
    Calls Tryz.prog 39 #[.slice (some ⟨B, 0, none⟩) n cap, .int .i64 j] w (LenGives bs n j w) := by
  have hcell := ht.at j hj
  have HT : Hid (Txt w B n bs) := ht
  have HC : Hid (bs j = 224) := hc
  have hji : (j : Int) < (n : Int) := by omega
  have hj0 : (0 : Int) ≤ (j : Int) := by omega
  clear ht
  rw [hc] at hcell
  clear hc
  by_cases hl : j + 3 ≤ n
  · have c1 := HT.out.at (j + 1) (by omega)
    have c2 := HT.out.at (j + 2) (by omega)
    have hgood : ∀ (_ : 160 ≤ bs (j + 1)) (_ : bs (j + 1) ≤ 191) (_ : 128 ≤ bs (j + 2)) (_ : bs (j + 2) ≤ 191), Sq bs j 3 := by
      intros
      have hh := HC.out
      unfold Sq
      omega
    have HG := hide hgood
    clear hgood
    go_enter Tryz.func39, Tryz.ntmps39
    go_wp2
    · go_ret
      exact ⟨⟨0, rfl, .inl rfl⟩, 0, rfl⟩
    · have b1 : 160 ≤ bs (j + 1) ∧ bs (j + 1) ≤ 191 := by omega
      have HB1 := hide b1
      clear b1
      go_loop [9] (fun m => ∃ k : Nat, m = .int .i64 k ∧ (k = 2 ∨ (k = 3 ∧ 128 ≤ bs (j + 2) ∧ bs (j + 2) ≤ 191))) (fun m => 3 - (intOf m).toNat)
      case atStart => exact ⟨2, rfl, .inl rfl⟩
      case round =>
        obtain ⟨k, rfl, hk⟩ := hrel
        rcases hk with rfl | ⟨rfl, hk1, hk2⟩
        · go_wp2
          · go_ret
            exact ⟨⟨0, rfl, .inl rfl⟩, 0, rfl⟩
          · exact ⟨⟨3, by go_num, .inr ⟨rfl, by omega, by omega⟩⟩, by simp [intOf]⟩
          · go_ret
            exact ⟨⟨0, rfl, .inl rfl⟩, 0, rfl⟩
        · go_wp2
          go_ret
          exact ⟨⟨3, rfl, .inr ⟨unhide HG (unhide HB1).1 (unhide HB1).2 hk1 hk2, hl⟩⟩, 0, rfl⟩
    · go_ret
      exact ⟨⟨0, rfl, .inl rfl⟩, 0, rfl⟩
  · go_enter Tryz.func39, Tryz.ntmps39
    go_wp2
    go_ret
    exact ⟨⟨0, rfl, .inl rfl⟩, 0, rfl⟩

set_option maxHeartbeats 1000000 in
theorem utf_u237 (B n cap j : Nat) (bs : Nat → Nat) (w : World) (hn : n ≤ 16383) (hj : j < n) (ht : Txt w B n bs) (hc : bs j = 237) :
    Calls Tryz.prog 39 #[.slice (some ⟨B, 0, none⟩) n cap, .int .i64 j] w (LenGives bs n j w) := by
  have hcell := ht.at j hj
  have HT : Hid (Txt w B n bs) := ht
  have HC : Hid (bs j = 237) := hc
  have hji : (j : Int) < (n : Int) := by omega
  have hj0 : (0 : Int) ≤ (j : Int) := by omega
  clear ht
  rw [hc] at hcell
  clear hc
  by_cases hl : j + 3 ≤ n
  · have c1 := HT.out.at (j + 1) (by omega)
    have c2 := HT.out.at (j + 2) (by omega)
    have hgood : ∀ (_ : 128 ≤ bs (j + 1)) (_ : bs (j + 1) ≤ 159) (_ : 128 ≤ bs (j + 2)) (_ : bs (j + 2) ≤ 191), Sq bs j 3 := by
      intros
      have hh := HC.out
      unfold Sq
      omega
    have HG := hide hgood
    clear hgood
    go_enter Tryz.func39, Tryz.ntmps39
    go_wp2
    · go_ret
      exact ⟨⟨0, rfl, .inl rfl⟩, 0, rfl⟩
    · have b1 : 128 ≤ bs (j + 1) ∧ bs (j + 1) ≤ 159 := by omega
      have HB1 := hide b1
      clear b1
      go_loop [9] (fun m => ∃ k : Nat, m = .int .i64 k ∧ (k = 2 ∨ (k = 3 ∧ 128 ≤ bs (j + 2) ∧ bs (j + 2) ≤ 191))) (fun m => 3 - (intOf m).toNat)
      case atStart => exact ⟨2, rfl, .inl rfl⟩
      case round =>
        obtain ⟨k, rfl, hk⟩ := hrel
        rcases hk with rfl | ⟨rfl, hk1, hk2⟩
        · go_wp2
          · go_ret
            exact ⟨⟨0, rfl, .inl rfl⟩, 0, rfl⟩
          · exact ⟨⟨3, by go_num, .inr ⟨rfl, by omega, by omega⟩⟩, by simp [intOf]⟩
          · go_ret
            exact ⟨⟨0, rfl, .inl rfl⟩, 0, rfl⟩
        · go_wp2
          go_ret
          exact ⟨⟨3, rfl, .inr ⟨unhide HG (unhide HB1).1 (unhide HB1).2 hk1 hk2, hl⟩⟩, 0, rfl⟩
    · go_ret
      exact ⟨⟨0, rfl, .inl rfl⟩, 0, rfl⟩
  · go_enter Tryz.func39, Tryz.ntmps39
    go_wp2
    go_ret
    exact ⟨⟨0, rfl, .inl rfl⟩, 0, rfl⟩

set_option maxHeartbeats 1000000 in
theorem utf_u225 (B n cap j : Nat) (bs : Nat → Nat) (w : World) (hn : n ≤ 16383) (hj : j < n) (ht : Txt w B n bs) (hc : 225 ≤ bs j ∧ bs j ≤ 239 ∧ bs j ≠ 237) :
    Calls Tryz.prog 39 #[.slice (some ⟨B, 0, none⟩) n cap, .int .i64 j] w (LenGives bs n j w) := by
  have hcell := ht.at j hj
  have HT : Hid (Txt w B n bs) := ht
  have HC : Hid (225 ≤ bs j ∧ bs j ≤ 239 ∧ bs j ≠ 237) := hc
  have hji : (j : Int) < (n : Int) := by omega
  have hj0 : (0 : Int) ≤ (j : Int) := by omega
  clear ht
  generalize hx : bs j = x at hcell hc
  have HX : Hid (bs j = x) := hx
  clear hx
  have x0 : (225 : Int) ≤ (x : Int) := by omega
  have x1 : (x : Int) ≤ 239 := by omega
  have e224 : ((x : Int) == 224) = false := by simp; omega
  have e237 : ((x : Int) == 237) = false := by simp; omega
  have e240 : ((x : Int) == 240) = false := by simp; omega
  have e244 : ((x : Int) == 244) = false := by simp; omega
  clear hc
  by_cases hl : j + 3 ≤ n
  · have c1 := HT.out.at (j + 1) (by omega)
    have c2 := HT.out.at (j + 2) (by omega)
    have hgood : ∀ (_ : 128 ≤ bs (j + 1)) (_ : bs (j + 1) ≤ 191) (_ : 128 ≤ bs (j + 2)) (_ : bs (j + 2) ≤ 191), Sq bs j 3 := by
      intros
      have hh := HC.out
      unfold Sq
      omega
    have HG := hide hgood
    clear hgood
    go_enter Tryz.func39, Tryz.ntmps39
    go_wp2
    · go_ret
      exact ⟨⟨0, rfl, .inl rfl⟩, 0, rfl⟩
    · have b1 : 128 ≤ bs (j + 1) ∧ bs (j + 1) ≤ 191 := by omega
      have HB1 := hide b1
      clear b1
      go_loop [9] (fun m => ∃ k : Nat, m = .int .i64 k ∧ (k = 2 ∨ (k = 3 ∧ 128 ≤ bs (j + 2) ∧ bs (j + 2) ≤ 191))) (fun m => 3 - (intOf m).toNat)
      case atStart => exact ⟨2, rfl, .inl rfl⟩
      case round =>
        obtain ⟨k, rfl, hk⟩ := hrel
        rcases hk with rfl | ⟨rfl, hk1, hk2⟩
        · go_wp2
          · go_ret
            exact ⟨⟨0, rfl, .inl rfl⟩, 0, rfl⟩
          · exact ⟨⟨3, by go_num, .inr ⟨rfl, by omega, by omega⟩⟩, by simp [intOf]⟩
          · go_ret
            exact ⟨⟨0, rfl, .inl rfl⟩, 0, rfl⟩
        · go_wp2
          go_ret
          exact ⟨⟨3, rfl, .inr ⟨unhide HG (unhide HB1).1 (unhide HB1).2 hk1 hk2, hl⟩⟩, 0, rfl⟩
    · go_ret
      exact ⟨⟨0, rfl, .inl rfl⟩, 0, rfl⟩
  · go_enter Tryz.func39, Tryz.ntmps39
    go_wp2
    go_ret
    exact ⟨⟨0, rfl, .inl rfl⟩, 0, rfl⟩

set_option maxHeartbeats 1000000 in
theorem utf_u240 (B n cap j : Nat) (bs : Nat → Nat) (w : World) (hn : n ≤ 16383) (hj : j < n) (ht : Txt w B n bs) (hc : bs j = 240) :
    Calls Tryz.prog 39 #[.slice (some ⟨B, 0, none⟩) n cap, .int .i64 j] w (LenGives bs n j w) := by
  have hcell := ht.at j hj
  have HT : Hid (Txt w B n bs) := ht
  have HC : Hid (bs j = 240) := hc
  have hji : (j : Int) < (n : Int) := by omega
  have hj0 : (0 : Int) ≤ (j : Int) := by omega
  clear ht
  rw [hc] at hcell
  clear hc
  by_cases hl : j + 4 ≤ n
  · have c1 := HT.out.at (j + 1) (by omega)
    have c2 := HT.out.at (j + 2) (by omega)
    have c3 := HT.out.at (j + 3) (by omega)
    have hgood : ∀ (_ : 144 ≤ bs (j + 1)) (_ : bs (j + 1) ≤ 191) (_ : 128 ≤ bs (j + 2)) (_ : bs (j + 2) ≤ 191) (_ : 128 ≤ bs (j + 3)) (_ : bs (j + 3) ≤ 191), Sq bs j 4 := by
      intros
      have hh := HC.out
      unfold Sq
      omega
    have HG := hide hgood
    clear hgood
    go_enter Tryz.func39, Tryz.ntmps39
    go_wp2
    · go_ret
      exact ⟨⟨0, rfl, .inl rfl⟩, 0, rfl⟩
    · have b1 : 144 ≤ bs (j + 1) ∧ bs (j + 1) ≤ 191 := by omega
      have HB1 := hide b1
      clear b1
      go_loop [9] (fun m => ∃ k : Nat, m = .int .i64 k ∧ (k = 2 ∨ (k = 3 ∧ 128 ≤ bs (j + 2) ∧ bs (j + 2) ≤ 191) ∨ (k = 4 ∧ 128 ≤ bs (j + 2) ∧ bs (j + 2) ≤ 191 ∧ 128 ≤ bs (j + 3) ∧ bs (j + 3) ≤ 191))) (fun m => 4 - (intOf m).toNat)
      case atStart => exact ⟨2, rfl, .inl rfl⟩
      case round =>
        obtain ⟨k, rfl, hk⟩ := hrel
        rcases hk with rfl | ⟨rfl, hk1, hk2⟩ | ⟨rfl, hk1, hk2, hk3, hk4⟩
        · go_wp2
          · go_ret
            exact ⟨⟨0, rfl, .inl rfl⟩, 0, rfl⟩
          · exact ⟨⟨3, by go_num, .inr (.inl ⟨rfl, by omega, by omega⟩)⟩, by simp [intOf]⟩
          · go_ret
            exact ⟨⟨0, rfl, .inl rfl⟩, 0, rfl⟩
        · go_wp2
          · go_ret
            exact ⟨⟨0, rfl, .inl rfl⟩, 0, rfl⟩
          · exact ⟨⟨4, by go_num, .inr (.inr ⟨rfl, hk1, hk2, by omega, by omega⟩)⟩, by simp [intOf]⟩
          · go_ret
            exact ⟨⟨0, rfl, .inl rfl⟩, 0, rfl⟩
        · go_wp2
          go_ret
          exact ⟨⟨4, rfl, .inr ⟨unhide HG (unhide HB1).1 (unhide HB1).2 hk1 hk2 hk3 hk4, hl⟩⟩, 0, rfl⟩
    · go_ret
      exact ⟨⟨0, rfl, .inl rfl⟩, 0, rfl⟩
  · go_enter Tryz.func39, Tryz.ntmps39
    go_wp2
    go_ret
    exact ⟨⟨0, rfl, .inl rfl⟩, 0, rfl⟩

set_option maxHeartbeats 1000000 in
theorem utf_u241 (B n cap j : Nat) (bs : Nat → Nat) (w : World) (hn : n ≤ 16383) (hj : j < n) (ht : Txt w B n bs) (hc : 241 ≤ bs j ∧ bs j ≤ 243) :
    Calls Tryz.prog 39 #[.slice (some ⟨B, 0, none⟩) n cap, .int .i64 j] w (LenGives bs n j w) := by
  have hcell := ht.at j hj
  have HT : Hid (Txt w B n bs) := ht
  have HC : Hid (241 ≤ bs j ∧ bs j ≤ 243) := hc
  have hji : (j : Int) < (n : Int) := by omega
  have hj0 : (0 : Int) ≤ (j : Int) := by omega
  clear ht
  generalize hx : bs j = x at hcell hc
  have HX : Hid (bs j = x) := hx
  clear hx
  have x0 : (241 : Int) ≤ (x : Int) := by omega
  have x1 : (x : Int) ≤ 243 := by omega
  have e224 : ((x : Int) == 224) = false := by simp; omega
  have e237 : ((x : Int) == 237) = false := by simp; omega
  have e240 : ((x : Int) == 240) = false := by simp; omega
  have e244 : ((x : Int) == 244) = false := by simp; omega
  clear hc
  by_cases hl : j + 4 ≤ n
  · have c1 := HT.out.at (j + 1) (by omega)
    have c2 := HT.out.at (j + 2) (by omega)
    have c3 := HT.out.at (j + 3) (by omega)
    have hgood : ∀ (_ : 128 ≤ bs (j + 1)) (_ : bs (j + 1) ≤ 191) (_ : 128 ≤ bs (j + 2)) (_ : bs (j + 2) ≤ 191) (_ : 128 ≤ bs (j + 3)) (_ : bs (j + 3) ≤ 191), Sq bs j 4 := by
      intros
      have hh := HC.out
      unfold Sq
      omega
    have HG := hide hgood
    clear hgood
    go_enter Tryz.func39, Tryz.ntmps39
    go_wp2
    · go_ret
      exact ⟨⟨0, rfl, .inl rfl⟩, 0, rfl⟩
    · have b1 : 128 ≤ bs (j + 1) ∧ bs (j + 1) ≤ 191 := by omega
      have HB1 := hide b1
      clear b1
      go_loop [9] (fun m => ∃ k : Nat, m = .int .i64 k ∧ (k = 2 ∨ (k = 3 ∧ 128 ≤ bs (j + 2) ∧ bs (j + 2) ≤ 191) ∨ (k = 4 ∧ 128 ≤ bs (j + 2) ∧ bs (j + 2) ≤ 191 ∧ 128 ≤ bs (j + 3) ∧ bs (j + 3) ≤ 191))) (fun m => 4 - (intOf m).toNat)
      case atStart => exact ⟨2, rfl, .inl rfl⟩
      case round =>
        obtain ⟨k, rfl, hk⟩ := hrel
        rcases hk with rfl | ⟨rfl, hk1, hk2⟩ | ⟨rfl, hk1, hk2, hk3, hk4⟩
        · go_wp2
          · go_ret
            exact ⟨⟨0, rfl, .inl rfl⟩, 0, rfl⟩
          · exact ⟨⟨3, by go_num, .inr (.inl ⟨rfl, by omega, by omega⟩)⟩, by simp [intOf]⟩
          · go_ret
            exact ⟨⟨0, rfl, .inl rfl⟩, 0, rfl⟩
        · go_wp2
          · go_ret
            exact ⟨⟨0, rfl, .inl rfl⟩, 0, rfl⟩
          · exact ⟨⟨4, by go_num, .inr (.inr ⟨rfl, hk1, hk2, by omega, by omega⟩)⟩, by simp [intOf]⟩
          · go_ret
            exact ⟨⟨0, rfl, .inl rfl⟩, 0, rfl⟩
        · go_wp2
          go_ret
          exact ⟨⟨4, rfl, .inr ⟨unhide HG (unhide HB1).1 (unhide HB1).2 hk1 hk2 hk3 hk4, hl⟩⟩, 0, rfl⟩
    · go_ret
      exact ⟨⟨0, rfl, .inl rfl⟩, 0, rfl⟩
  · go_enter Tryz.func39, Tryz.ntmps39
    go_wp2
    go_ret
    exact ⟨⟨0, rfl, .inl rfl⟩, 0, rfl⟩

set_option maxHeartbeats 1000000 in
theorem utf_u244 (B n cap j : Nat) (bs : Nat → Nat) (w : World) (hn : n ≤ 16383) (hj : j < n) (ht : Txt w B n bs) (hc : bs j = 244) :
    Calls Tryz.prog 39 #[.slice (some ⟨B, 0, none⟩) n cap, .int .i64 j] w (LenGives bs n j w) := by
  have hcell := ht.at j hj
  have HT : Hid (Txt w B n bs) := ht
  have HC : Hid (bs j = 244) := hc
  have hji : (j : Int) < (n : Int) := by omega
  have hj0 : (0 : Int) ≤ (j : Int) := by omega
  clear ht
  rw [hc] at hcell
  clear hc
  by_cases hl : j + 4 ≤ n
  · have c1 := HT.out.at (j + 1) (by omega)
    have c2 := HT.out.at (j + 2) (by omega)
    have c3 := HT.out.at (j + 3) (by omega)
    have hgood : ∀ (_ : 128 ≤ bs (j + 1)) (_ : bs (j + 1) ≤ 143) (_ : 128 ≤ bs (j + 2)) (_ : bs (j + 2) ≤ 191) (_ : 128 ≤ bs (j + 3)) (_ : bs (j + 3) ≤ 191), Sq bs j 4 := by
      intros
      have hh := HC.out
      unfold Sq
      omega
    have HG := hide hgood
    clear hgood
    go_enter Tryz.func39, Tryz.ntmps39
    go_wp2
    · go_ret
      exact ⟨⟨0, rfl, .inl rfl⟩, 0, rfl⟩
    · have b1 : 128 ≤ bs (j + 1) ∧ bs (j + 1) ≤ 143 := by omega
      have HB1 := hide b1
      clear b1
      go_loop [9] (fun m => ∃ k : Nat, m = .int .i64 k ∧ (k = 2 ∨ (k = 3 ∧ 128 ≤ bs (j + 2) ∧ bs (j + 2) ≤ 191) ∨ (k = 4 ∧ 128 ≤ bs (j + 2) ∧ bs (j + 2) ≤ 191 ∧ 128 ≤ bs (j + 3) ∧ bs (j + 3) ≤ 191))) (fun m => 4 - (intOf m).toNat)
      case atStart => exact ⟨2, rfl, .inl rfl⟩
      case round =>
        obtain ⟨k, rfl, hk⟩ := hrel
        rcases hk with rfl | ⟨rfl, hk1, hk2⟩ | ⟨rfl, hk1, hk2, hk3, hk4⟩
        · go_wp2
          · go_ret
            exact ⟨⟨0, rfl, .inl rfl⟩, 0, rfl⟩
          · exact ⟨⟨3, by go_num, .inr (.inl ⟨rfl, by omega, by omega⟩)⟩, by simp [intOf]⟩
          · go_ret
            exact ⟨⟨0, rfl, .inl rfl⟩, 0, rfl⟩
        · go_wp2
          · go_ret
            exact ⟨⟨0, rfl, .inl rfl⟩, 0, rfl⟩
          · exact ⟨⟨4, by go_num, .inr (.inr ⟨rfl, hk1, hk2, by omega, by omega⟩)⟩, by simp [intOf]⟩
          · go_ret
            exact ⟨⟨0, rfl, .inl rfl⟩, 0, rfl⟩
        · go_wp2
          go_ret
          exact ⟨⟨4, rfl, .inr ⟨unhide HG (unhide HB1).1 (unhide HB1).2 hk1 hk2 hk3 hk4, hl⟩⟩, 0, rfl⟩
    · go_ret
      exact ⟨⟨0, rfl, .inl rfl⟩, 0, rfl⟩
  · go_enter Tryz.func39, Tryz.ntmps39
    go_wp2
    go_ret
    exact ⟨⟨0, rfl, .inl rfl⟩, 0, rfl⟩

theorem utf_any (B n cap j : Nat) (bs : Nat → Nat) (w : World) (hn : n ≤ 16383) (hj : j < n) (ht : Txt w B n bs) :
    Calls Tryz.prog 39 #[.slice (some ⟨B, 0, none⟩) n cap, .int .i64 j] w (LenGives bs n j w) := by
  by_cases h1 : bs j < 128
  · exact utf_ascii B n cap j bs w hn hj ht h1
  by_cases h2 : bs j ≤ 193
  · exact utf_low B n cap j bs w hn hj ht ⟨by omega, h2⟩
  by_cases h3 : bs j ≤ 223
  · exact utf_u194 B n cap j bs w hn hj ht ⟨by omega, h3⟩
  by_cases h4 : bs j = 224
  · exact utf_u224 B n cap j bs w hn hj ht h4
  by_cases h5 : bs j = 237
  · exact utf_u237 B n cap j bs w hn hj ht h5
  by_cases h6 : bs j ≤ 239
  · exact utf_u225 B n cap j bs w hn hj ht ⟨by omega, h6, h5⟩
  by_cases h7 : bs j = 240
  · exact utf_u240 B n cap j bs w hn hj ht h7
  by_cases h8 : bs j ≤ 243
  · exact utf_u241 B n cap j bs w hn hj ht ⟨by omega, h8⟩
  by_cases h9 : bs j = 244
  · exact utf_u244 B n cap j bs w hn hj ht h9
  · exact utf_high B n cap j bs w hn hj ht (by omega)

end Go.Proofs.Qxb6616638aGreatFmt
