/-
  Statement 4: the law's bound on its argument; a fresh Names.
-/
import Derived.Test.Qxb6616638aGreatFmtBddG
import Derived.Test.Qxb6616638aGreatFmtMain0b
namespace Go.Proofs.Qxb6616638aGreatFmt.Two
open Go.Proofs.Qxb6616638aGreatFmt
open Go.RowKit
open Plain
set_option linter.unusedVariables false
set_option maxRecDepth 100000

theorem zzBytes11_yes (a : Option Addr) (len cap : Nat) (k k2 : Int) (h : len ≤ 1048576) (w : World) : Calls Tryz.prog 11 #[.slice a len cap, .int .i64 k, .int .i64 k2] w fun e w' => e = .returned (.bool true) ∧ w' = w := by
  have h1 : decide ((1048576 : Int) < (len : Int)) = false := by simp; omega
  go_enter Tryz.func11, Tryz.ntmps11
  go_wp2
  go_ret
  exact ⟨rfl, rfl⟩

theorem zzBytes11_no (a : Option Addr) (len cap : Nat) (k k2 : Int) (h : 1048576 < len) (w : World) : Calls Tryz.prog 11 #[.slice a len cap, .int .i64 k, .int .i64 k2] w fun e w' => e = .returned (.bool false) ∧ w' = w := by
  have h1 : (1048576 : Int) < (len : Int) := by omega
  go_enter Tryz.func11, Tryz.ntmps11
  go_wp2
  go_ret
  exact ⟨rfl, rfl⟩

/-- The text and the tape, as add reads them. -/
structure TxtEnv (w : World) (bd D B n cap : Nat) (bs : Nat → Nat) (es : List Ent) : Prop where
  hT : NT w bd D es
  hx : Txt w B n bs
  hB : B < bd
  hn : n ≤ 16383
  hcap : n ≤ cap
  hbu : Built bs n es

theorem NSt.env {w : World} {base bd O D B n cap k first : Nat} {bs : Nat → Nat} {es : List Ent} {js : List Nat} {kv ov : Value} {ks os_ : List Value} (h : NSt w base O first kv ov ks os_) (t : TxtEnv w bd D B n cap bs es) (hbd : bd ≤ base) (hk : k < es.length) (hq : (at_ es k).en < es.length) (hch : Chain bs n es k (k + 1) js (at_ es k).en) (hf : first ≤ 8191) :
    AddEnv w base bd O D B n cap k first (at_ es k).en bs es js kv ov ks os_ :=
  ⟨t.hT, t.hx, t.hB, hbd, h.hbase, t.hn, t.hcap, t.hbu, hk, rfl, hq, hch, hf, h.c0, h.c1, h.c2, h.fz, h.rk, h.ro, h.nk, h.no, h.nko⟩

theorem TxtEnv.below {w w' : World} {bd D B n cap : Nat} {bs : Nat → Nat} {es : List Ent} (t : TxtEnv w bd D B n cap bs es) (hb : Below bd w w') : TxtEnv w' bd D B n cap bs es :=
  ⟨t.hT.below hb, t.hx.below hb t.hB, t.hB, t.hn, t.hcap, t.hbu⟩

theorem fresh_st {w w' : World} (hnb : NewBlock w w' 515 nz) (hfz : ∀ p, w'.frozen? ⟨w.heap.size, p, none⟩ = false) : NSt w' w.heap.size w.heap.size 0 (.slice none 0 0) (.slice none 0 0) [] [] ∧ Fresh w' w.heap.size := by
  refine ⟨⟨Nat.le_refl _, hnb.row.cell 0 (by omega), hnb.row.cell 1 (by omega), hnb.row.cell 2 (by omega), hfz, ⟨rfl, .inl ⟨rfl, rfl⟩⟩, ⟨rfl, .inl ⟨rfl, rfl⟩⟩, by simp [Value.ownBlock], by simp [Value.ownBlock], .inl rfl⟩, fun s hs => ⟨?_, ?_⟩⟩
  · rw [hnb.row.cell (3 + s * 2) (by omega)]
    unfold nz
    rw [if_neg (by omega), if_pos (by omega)]
  · rw [hnb.row.cell (3 + s * 2 + 1) (by omega)]
    unfold nz
    rw [if_neg (by omega), if_neg (by omega)]

end Go.Proofs.Qxb6616638aGreatFmt.Two
