/-
  THE WALK of addMembers.
-/
import Derived.Test.Qxb6616638aGreatFmtAddM2
import Derived.Deep.CutBlock
import Derived.Deep.CutRange
namespace Go.Proofs.Qxb6616638aGreatFmt
open Go.RowKit
open Plain
set_option linter.unusedVariables false
set_option maxRecDepth 100000

variable {w : World}

set_option maxHeartbeats 16000000 in
theorem addMembers_any (base bd O D B n cap k first q : Nat) (bs : Nat → Nat) (es : List Ent) (js : List Nat) (kv ov : Value) (ks os_ : List Value)
    (hT : NT w bd D es) (hx : Txt w B n bs) (hB : B < bd) (hbd : bd ≤ base) (hbase : base ≤ O) (hn : n ≤ 16383) (hcap : n ≤ cap) (hbu : Built bs n es) (hk : k < es.length) (hq : (at_ es k).en = q) (hql : q < es.length)
    (hch : Chain bs n es k (k + 1) js q) (hfirst : first ≤ 8191) (c0 : w.cell? ⟨O, 0, none⟩ = some kv) (c1 : w.cell? ⟨O, 1, none⟩ = some ov) (f0 : w.frozen? ⟨O, 0, none⟩ = false) (f1 : w.frozen? ⟨O, 1, none⟩ = false)
    (rk : w.ownsRow base 78 4 kv first ks) (ro : w.ownsRow base 36 1 ov first os_) (nk : kv.ownBlock ≠ some O) (no : ov.ownBlock ≠ some O) (nko : kv.ownBlock = none ∨ kv.ownBlock ≠ ov.ownBlock) :
    Calls Tryz.prog 31 #[.pointer (some ⟨O, 0, none⟩), .slice (some ⟨B, 0, none⟩) n cap, .pointer (some ⟨D, 0, none⟩), .int .i64 k] w (AddMGives w base O first kv ov ks os_ bs es js) := by
  obtain ⟨ge, ce, hge, t1, t2⟩ := hT.ent
  have hOl : O < w.heap.size := World.block_lt_of_cell? _ _ c0
  obtain ⟨ak, lk, ck, ek⟩ := rk.isSlice
  obtain ⟨ao, lo, co, eo⟩ := ro.isSlice
  have elk : lk = first := by
    rcases rk.2 with ⟨h, h'⟩ | ⟨_, _, _, h, _⟩
    · rw [h] at ek; injection ek with _ e _; omega
    · rw [h] at ek; injection ek with _ e _; omega
  subst elk
  have tk := (t2 k hk).2
  rw [hq] at tk
  have hkb : ∀ g, kv.ownBlock = some g → base ≤ g := by
    intro g hg
    rcases rk.2 with ⟨h, _⟩ | ⟨g', _, _, h, h', _⟩
    · rw [h] at hg; cases hg
    · rw [h] at hg; injection hg with hg; rw [← hg]; exact h'
  have hob : ∀ g, ov.ownBlock = some g → base ≤ g := by
    intro g hg
    rcases ro.2 with ⟨h, _⟩ | ⟨g', _, _, h, h', _⟩
    · rw [h] at hg; cases hg
    · rw [h] at hg; injection hg with hg; rw [← hg]; exact h'
  have HKB := hide hkb
  have HOB := hide hob
  have hjl : js.length ≤ 8191 := by
    have := chain_len hch
    have := hbu.len
    omega
  have HT := hide hT
  have HX := hide hx
  have HCH := hide hch
  have HBU := hide hbu
  have hle := hch.le
  have hln := hbu.len
  have C0 := hide c0
  have C1 := hide c1
  have F0 := hide f0
  have F1 := hide f1
  rw [ek] at c0
  rw [eo] at c1
  have T2 := hide t2
  clear hT hx hch hbu t2 hkb hob
  have i1 : (k : Int) < (es.length : Int) := by omega
  have i2 : (0 : Int) ≤ (k : Int) := by omega
  go_enter Tryz.func31, Tryz.ntmps31
  go_wp2
  go_quiet (fail)
  go_wp2
  go_quiet (fail)
  go_wp2
  go_loopw [8, 9, 12, 13, 15, 17, 18, 19, 20, 21, 22, 23, 24, 25, 26, 27] (fun v8 v9 v12 v13 v15 v17 _ _ _ _ _ _ _ _ _ _ wr => ∃ (j1 j2 : List Nat) (p : Nat) (hh : Int), v15 = .int .u64 (p : Int) ∧ v8 = .int .u64 (orL bs es j1 : Nat) ∧ v9 = .int .u64 hh ∧ 0 ≤ hh ∧ AMR w base O n lk k q kv ov ks os_ bs es js j1 j2 p v12 v13 wr) (fun _ _ _ _ v15 _ _ _ _ _ _ _ _ _ _ _ _ => 20000 - (intOf v15).toNat)
  case atStart =>
    refine ⟨[], js, k + 1, 14695981039346656037, by go_num, rfl, rfl, by omega, ?_⟩
    rw [← ek, ← eo]
    refine ⟨rfl, HCH.out, ⟨rfl, rfl, rfl, Nat.le_refl _, fun _ _ _ _ => rfl⟩, ?_, ?_, .inl rfl, .inl rfl, nko⟩
    · have h : w.ownsRow base 78 4 kv (lk + 0) (ks ++ []) := by simpa using rk
      exact h
    · have h : w.ownsRow base 36 1 ov (lk + 0) (os_ ++ []) := by simpa using ro
      exact h
  case round =>
    rename World => wa
    obtain ⟨j1, j2, p, hh, rfl, rfl, rfl, hh0, hamr⟩ := hrel
    cases j2 with
    | nil =>
      obtain ⟨hjs, hc, hbut, hrk, hro, hs1, hs2, hne⟩ := hamr
      have hpq : p = q := hc
      have hd : decide ((p : Int) < (q : Int)) = false := by simp; omega
      have ejs : js = j1 := by simpa using hjs
      subst ejs
      obtain ⟨a12, l12, c12, e12⟩ := hrk.isSlice
      obtain ⟨a13, l13, c13, e13⟩ := hro.isSlice
      have hke := hbut.keep hOl nk no
      have z0 : wa.cell? ⟨O, 0, none⟩ = some kv := (hke.1 0).trans C0.out
      have z1 : wa.cell? ⟨O, 1, none⟩ = some ov := (hke.1 1).trans C1.out
      have y0 : wa.frozen? ⟨O, 0, none⟩ = false := (hke.2 0).trans F0.out
      have y1 : wa.frozen? ⟨O, 1, none⟩ = false := (hke.2 1).trans F1.out
      have HBUT := hide hbut
      have HRK := hide hrk
      have HRO := hide hro
      have HS1 := hide hs1
      have HS2 := hide hs2
      have HNE := hide hne
      clear hjs hc hbut hrk hro hs1 hs2 hne hke
      subst e12
      subst e13
      go_wp2
      refine bodyPost_ret (v := .tuple #[.int .u64 (orL bs es js : Nat), .int .u64 hh, .nilIface]) (by simp [results, Tryz.results31, go_sem]) rfl ⟨_, _, wa, hh, rfl, hh0, HBUT.out, rfl, HRK.out, HRO.out, HS1.out, HS2.out, HNE.out⟩
    | cons j j2 =>
      obtain ⟨hjs, hc, hbut, hrk, hro, hs1, hs2, hne⟩ := hamr
      have hlt : p < q := by
        have h1 := hc.2.2.2.2.2.2.2.2.2.1
        have h2 := Chain.le hc.2.2.2.2.2.2.2.2.2.2.2
        have h3 := hc.1
        omega
      have hd : (p : Int) < (q : Int) := by omega
      have hlj : lk + j1.length ≤ 20000 := by
        have := congrArg List.length hjs
        simp only [List.length_append, List.length_cons] at this
        omega
      have hj1 : (j1 ++ j :: j2).length ≤ 8191 := by rw [← hjs]; exact hjl
      have HC := hide hc
      have HBUT := hide hbut
      have HRK := hide hrk
      have HRO := hide hro
      have HS1 := hide hs1
      have HS2 := hide hs2
      have HNE := hide hne
      have HJS := hide hjs
      have hsz := hbut.size
      clear hc hbut hrk hro hs1 hs2 hne hjs hj1
      go_wp2_with fail
      refine (grow40 base u12 _ _ hlj HRK.out (by omega)).mono ?_
      rintro e w1 ⟨gk, ck, rfl, hck, hrk1, hg1, hb1⟩
      have HRK1 := hide hrk1
      have HG1 := hide hg1
      have hs1' := hg1.size
      have HRO1 : Hid (w1.ownsRow base 36 1 u13 (lk + j1.length) (os_ ++ ordOf bs es j1)) := HRO.out.kept hg1 (by cases h : u13.ownBlock <;> simp)
      clear hrk1 hg1
      go_wp2_with fail
      refine (grow41 base u13 _ _ hlj HRO1.out (by omega)).mono ?_
      rintro e w2 ⟨go, co', rfl, hco, hro2, hg2, hb2⟩
      have HRO2 := hide hro2
      have HG2 := hide hg2
      have hs2' := hg2.size
      have HRK2 : Hid (w2.ownsRow base 78 4 (.slice (some ⟨gk, 0, none⟩) (lk + j1.length) ck) (lk + j1.length) (ks ++ keysOf bs es j1)) := HRK1.out.kept hg2 (by simp [Value.ownBlock])
      clear hro2 hg2
      have HB1 := hide hb1
      have HB2 := hide hb2
      clear hb1 hb2
      go_wp2
      go_loopw [8, 9, 12, 13, 15, 17, 18, 19, 20, 21, 22, 23, 24] (fun v8 v9 v12 v13 v15 v17 _ _ _ _ _ _ _ wr => ∃ (j1' j2' : List Nat) (p' : Nat) (hh' : Int) (r : Nat) (ck' co2 : Nat), v15 = .int .u64 (p' : Int) ∧ v8 = .int .u64 (orL bs es j1' : Nat) ∧ v9 = .int .u64 hh' ∧ 0 ≤ hh' ∧ v17 = .int .i64 (r : Int) ∧ r ≤ 32 ∧
          v12 = .slice (some ⟨gk, 0, none⟩) (lk + j1'.length) ck' ∧ v13 = .slice (some ⟨go, 0, none⟩) (lk + j1'.length) co2 ∧ lk + j1'.length + (32 - r) ≤ ck' ∧ lk + j1'.length + (32 - r) ≤ co2 ∧ p ≤ p' ∧ (r = 0 ∨ p < p') ∧ AMR w base O n lk k q kv ov ks os_ bs es js j1' j2' p' v12 v13 wr) (fun _ _ _ _ _ v17 _ _ _ _ _ _ _ _ => 40 - (intOf v17).toNat)
      case atStart =>
        refine ⟨j1, j :: j2, p, hh, 0, ck, co', rfl, rfl, rfl, hh0, rfl, by omega, rfl, rfl, by omega, by omega, Nat.le_refl _, .inl rfl, HJS.out, HC.out, ?_, HRK2.out, HRO2.out, ?_, ?_, ?_⟩
        · exact (HBUT.out.grown HG1.out).grown HG2.out
        · exact HS1.out.grow hsz HB1.out
        · exact HS2.out.grow (wa := w1) (by omega) HB2.out
        · exact .inr (by rw [own_some, own_some]; simp; exact grow_ne HRK.out HRO.out HNE.out hs1' HRK1.out HB1.out HB2.out)
      case round =>
        rename World => wb
        obtain ⟨a1, a2, x, h2, r, ck2, co2, rfl, rfl, rfl, hh2, rfl, hr32, rfl, rfl, hrm1, hrm2, hpx, hrx, hamr⟩ := hrel
        have HA := hide hamr
        obtain ⟨qjs, qc, qbut, qrk, qro, qs1, qs2, qne⟩ := hamr
        have hbw : Below base w wb := qbut.below (by omega) HKB.out HOB.out
        have HNT : Hid (NT wb bd D es) := HT.out.below (hbw.mono hbd)
        have hsb := qbut.size
        have hal : a1.length + a2.length ≤ 8191 := by
          have := congrArg List.length qjs
          simp only [List.length_append] at this
          omega
        have QC := hide qc
        have QRK := hide qrk
        have QRO := hide qro
        clear qjs qc qbut qrk qro qs1 qs2 qne HC HBUT HRK HRO HS1 HS2 HNE HRK1 HRO1 HG1 HG2 HRK2 HRO2 HB1 HB2
        cases a2 with
        | nil =>
          have hxq : x = q := QC.out
          have d2 : decide ((x : Int) < (q : Int)) = false := by simp; omega
          have hrb : ((r : Int) < 32) ∨ decide ((r : Int) < 32) = false := by
            by_cases h : (r : Int) < 32
            · exact .inl h
            · exact .inr (by simpa using h)
          rcases hrb with hrb | hrb
          all_goals
            go_wp2
            go_roundw
            case rel => exact ⟨a1, [], x, h2, rfl, rfl, rfl, hh2, HA.out⟩
            case measure =>
              show 20000 - ((x : Int)).toNat < 20000 - ((p : Int)).toNat
              omega
        | cons y a2 =>
          obtain ⟨rfl, hy1, _, _, _, hstr, _, _, _, hnx, _, hcc⟩ := QC.out
          have hxq : y < q := by
            have := Chain.le hcc
            omega
          have d2 : (y : Int) < (q : Int) := by omega
          by_cases hr : r < 32
          · have hTx : Txt wb B n bs := HX.out.below hbw (by omega)
            have hL := ldE_lt hstr (fun i hi => hTx.lt i hi)
            have hOr : orL bs es a1 < 281474976710656 := by
              refine orL_lt bs es a1 0 (by omega) (fun j hj => orL_lt' (fun i hi => hTx.lt i hi) HCH.out j ?_)
              rw [HA.out.1]
              exact List.mem_append_left _ hj
            have hFit := (HBU.out.ok (y + 1) hy1).1
            have HTX := hide hTx
            have z00 : wb.cell? ⟨ge, y * 2, none⟩ = some (.int .i32 ((at_ es y).st : Int)) := (hbw.cell (p := ⟨ge, y * 2, none⟩) (by show ge < base; omega)).trans (T2.out y (by omega)).1
            have z01 : wb.cell? ⟨ge, y * 2 + 1, none⟩ = some (.int .i32 ((at_ es y).en : Int)) := (hbw.cell (p := ⟨ge, y * 2 + 1, none⟩) (by show ge < base; omega)).trans (T2.out y (by omega)).2
            have z10 : wb.cell? ⟨ge, (y + 1) * 2, none⟩ = some (.int .i32 ((at_ es (y + 1)).st : Int)) := (hbw.cell (p := ⟨ge, (y + 1) * 2, none⟩) (by show ge < base; omega)).trans (T2.out (y + 1) hy1).1
            have z11 : wb.cell? ⟨ge, (y + 1) * 2 + 1, none⟩ = some (.int .i32 ((at_ es (y + 1)).en : Int)) := (hbw.cell (p := ⟨ge, (y + 1) * 2 + 1, none⟩) (by show ge < base; omega)).trans (T2.out (y + 1) hy1).2
            have hgw : ge < wb.heap.size := by omega
            have hgn : ge ≠ wb.heap.size := by omega
            have hgn2 : ge ≠ wb.heap.size + 1 := by omega
            have d1 : (r : Int) < 32 := by omega
            have d3 : (y : Int) < (es.length : Int) := by omega
            have d4 : (y : Int) + 1 < (es.length : Int) := by omega
            have d5 : (0 : Int) ≤ (y : Int) := by omega
            have mw : IntKind.u64.wrap ((y : Int) + 1) = (y : Int) + 1 := by rw [IntKind.wrap_u64]; omega
            have mt : ((y : Int) + 1).toNat = y + 1 := by omega
            obtain ⟨hs1, hs2, _⟩ := hstr
            obtain ⟨hF1, hF2, _⟩ := hFit
            have hnxe : nxt bs es (y + 1) = if isCont (bs (at_ es (y + 1)).st) then (at_ es (y + 1)).en + 1 else y + 1 + 1 := rfl
            have hme : mEnd bs es y = if isCont (bs (at_ es (y + 1)).st) then 0 else if (at_ es (y + 1)).st = (at_ es y).en + 1 then (at_ es (y + 1)).en else 0 := rfl
            have hke : keyE bs es y = [.int .i32 (y : Int), .int .i32 (((at_ es y).st + 1 : Nat) : Int), .int .i32 (((at_ es y).en - 1 : Nat) : Int), .int .i32 ((mEnd bs es y : Nat) : Int)] := rfl
            have hld : ldE bs es y = ld bs ((at_ es y).st + 1) ((at_ es y).en - 1 - ((at_ es y).st + 1)) := rfl
            generalize (at_ es y).st = sy at *
            generalize (at_ es y).en = ey at *
            generalize (at_ es (y + 1)).st = sv at *
            generalize (at_ es (y + 1)).en = ev at *
            obtain ⟨f, hf⟩ : ∃ f, f = sy + 1 := ⟨_, rfl⟩
            obtain ⟨t, ht⟩ : ∃ t, t = ey - 1 := ⟨_, rfl⟩
            rw [← hf, ← ht] at hke hld
            have HNX := hide hnxe
            have HME := hide hme
            have HKE := hide hke
            have HLD := hide hld
            have ew1 : IntKind.i32.wrap ((sy : Int) + 1) = (f : Int) := by rw [IntKind.wrap_i32]; omega
            have ew2 : IntKind.i32.wrap ((ey : Int) - 1) = (t : Int) := by rw [IntKind.wrap_i32]; omega
            have ew3 : IntKind.i32.wrap (y : Int) = (y : Int) := by rw [IntKind.wrap_i32]; omega
            have ew4 : IntKind.u64.wrap ((y : Int) + 2) = (y : Int) + 2 := by rw [IntKind.wrap_u64]; omega
            have ew5 : IntKind.i32.wrap ((ey : Int) + 1) = (ey : Int) + 1 := by rw [IntKind.wrap_i32]; omega
            have ew6 : IntKind.u64.wrap ((ev : Int) + 1) = (ev : Int) + 1 := by rw [IntKind.wrap_u64]; omega
            have ew7 : IntKind.u64.wrap (ev : Int) = (ev : Int) := by rw [IntKind.wrap_u64]; omega
            have ew8 : IntKind.i64.wrap (y : Int) = (y : Int) := by rw [IntKind.wrap_i64]; omega
            have ew9 : IntKind.i64.wrap ((y : Int) + 1) = (y : Int) + 1 := by rw [IntKind.wrap_i64]; omega
            have hft : f ≤ t := by omega
            have htn : t < n := by omega
            have HF := hide hf
            have HT' := hide ht
            clear hnxe hme hke hld hTx hf ht
            go_wp2_with fail
            refine (canonical_any bd D y es HNT.out (by omega) (by omega)).mono ?_
            rintro e w' ⟨rfl, hw⟩
            have hw := hw.symm
            subst hw
            go_upto_region 11 with (fail)
            go_cut [18, 19] from 58 to 164 (fun s18 s19 wx => ∃ b18 b19 : Nat, s18 = .pointer (some ⟨b18, 0, none⟩) ∧ s19 = .pointer (some ⟨b19, 0, none⟩) ∧ wx.cell? ⟨b18, 0, none⟩ = some (.int .i32 (sy : Int)) ∧ wx.cell? ⟨b18, 1, none⟩ = some (.int .i32 (ey : Int)) ∧ wx.cell? ⟨b19, 0, none⟩ = some (.int .i32 (sv : Int)) ∧ wx.cell? ⟨b19, 1, none⟩ = some (.int .i32 (ev : Int)) ∧ b18 < wx.heap.size ∧ b19 < wx.heap.size ∧ Below wb.heap.size wb wx)
            case first =>
              go_region
              all_goals (try go_wp2_with fail)
              all_goals go_meet
              · obtain ⟨x0, x1, x2, x3, hbl, hsw⟩ := two_blocks wb (.int .i32 (sy : Int)) (.int .i32 (ey : Int)) (.int .i32 (sv : Int)) (.int .i32 (ev : Int)) 67
                exact ⟨_, _, rfl, rfl, x0, x1, x2, x3, by rw [hsw]; omega, by rw [hsw]; omega, hbl⟩
              · obtain ⟨x2, x3, x0, x1, hbl, hsw⟩ := two_blocks wb (.int .i32 (sv : Int)) (.int .i32 (ev : Int)) (.int .i32 (sy : Int)) (.int .i32 (ey : Int)) 67
                exact ⟨_, _, rfl, rfl, x0, x1, x2, x3, by rw [hsw]; omega, by rw [hsw]; omega, hbl⟩
            case rest =>
              rename World => wc
              obtain ⟨b18, b19, rfl, rfl, x0, x1, x2, x3, l18, l19, hbl⟩ := hcut
              have hsc := hbl.size
              have cB : wc.cell? ⟨B, sv, none⟩ = some (.int .u8 (bs sv : Int)) := (hbl.cell (p := ⟨B, sv, none⟩) (by show B < wb.heap.size; omega)).trans (HTX.out.at sv hF1)
              have n18 : b18 ≠ wc.heap.size := by omega
              have n19 : b19 ≠ wc.heap.size := by omega
              have nB : B ≠ wc.heap.size := by omega
              have lB : B < wc.heap.size := by omega
              have d6 : (sv : Int) < (n : Int) := by omega
              have d7 : (0 : Int) ≤ (sv : Int) := by omega
              have HBL := hide hbl
              clear hbl z00 z01 z10 z11
              go_upto_block 4 with (fail)
              go_cut [21] from 58 to 164 (fun s21 wx => s21 = .int .u64 ((nxt bs es (y + 1) : Nat) : Int) ∧ wx.cell? ⟨wc.heap.size, 0, none⟩ = some (.int .i32 (y : Int)) ∧ wx.cell? ⟨wc.heap.size, 1, none⟩ = some (.int .i32 (f : Int)) ∧ wx.cell? ⟨wc.heap.size, 2, none⟩ = some (.int .i32 (t : Int)) ∧ wx.cell? ⟨wc.heap.size, 3, none⟩ = some (.int .i32 ((mEnd bs es y : Nat) : Int)) ∧ wc.heap.size < wx.heap.size ∧ Below wc.heap.size wc wx)
              case first =>
                generalize bs sv = cc at *
                have HNC : ∀ o, Hid (NT (wc.alloc o) bd D es) := fun o => (HNT.out.below (HBL.out.mono (by omega))).below ((Below.refl _ _).alloc (by omega) o)
                by_cases hc1 : cc = 123
                · subst hc1
                  go_wp2_with fail
                  go_meet
                  obtain ⟨y0, y1, y2, y3, y4, y5⟩ := key_block wc (.int .i32 (y : Int)) (.int .i32 (f : Int)) (.int .i32 (t : Int)) (.int .i32 0) 78
                  refine ⟨?_, y0, y1, y2, y3.trans ?_, y4, y5⟩
                  · rw [HNX.out]; rfl
                  · rw [HME.out]; rfl
                · have g1 : ((cc : Int) == 123) = false := by simp; omega
                  have g1' : ¬ (cc : Int) = 123 := by omega
                  by_cases hc2 : cc = 91
                  · subst hc2
                    go_wp2_with fail
                    go_meet
                    obtain ⟨y0, y1, y2, y3, y4, y5⟩ := key_block wc (.int .i32 (y : Int)) (.int .i32 (f : Int)) (.int .i32 (t : Int)) (.int .i32 0) 78
                    refine ⟨?_, y0, y1, y2, y3.trans ?_, y4, y5⟩
                    · rw [HNX.out]; rfl
                    · rw [HME.out]; rfl
                  · have g2 : ((cc : Int) == 91) = false := by simp; omega
                    have g2' : ¬ (cc : Int) = 91 := by omega
                    have hct : isCont cc = false := by simp [isCont, hc1, hc2]
                    by_cases hadj : sv = ey + 1
                    · have g3 : ((sv : Int) == (ey : Int) + 1) = true := by simp; omega
                      have g3' : (sv : Int) = (ey : Int) + 1 := by omega
                      go_wp2_with fail
                      refine (canonical_any bd D (y + 1) es (HNC _).out (by omega) (by omega)).mono ?_
                      rintro e w3 ⟨rfl, hw3⟩
                      have hw3 := hw3.symm
                      subst hw3
                      go_wp2_with fail
                      go_meet
                      obtain ⟨y0, y1, y2, y3, y4, y5⟩ := key_block wc (.int .i32 (y : Int)) (.int .i32 (f : Int)) (.int .i32 (t : Int)) (.int .i32 (ev : Int)) 78
                      refine ⟨?_, y0, y1, y2, y3.trans ?_, y4, y5⟩
                      · rw [HNX.out, hct]; rfl
                      · rw [HME.out, hct, if_pos hadj]; rfl
                    · have g3 : ((sv : Int) == (ey : Int) + 1) = false := by simp; omega
                      have g3' : ¬ (sv : Int) = (ey : Int) + 1 := by omega
                      go_wp2_with fail
                      go_meet
                      obtain ⟨y0, y1, y2, y3, y4, y5⟩ := key_block wc (.int .i32 (y : Int)) (.int .i32 (f : Int)) (.int .i32 (t : Int)) (.int .i32 0) 78
                      refine ⟨?_, y0, y1, y2, y3.trans ?_, y4, y5⟩
                      · rw [HNX.out, hct]; rfl
                      · rw [HME.out, hct, if_neg hadj]; rfl
              case rest =>
                rename World => wd
                obtain ⟨rfl, k0, k1, k2, k3, lkb, hbk⟩ := hcut
                have hsd := hbk.size
                have hB2 : Below wb.heap.size wb wd := HBL.out.trans (hbk.mono (by omega))
                have HTD : Hid (Txt wd B n bs) := HTX.out.below hB2 (by omega)
                have HB2' := hide hB2
                clear hbk hB2 x0 x1 x2 x3 cB
                go_wp2_with fail
                refine (leadAt_any B f t n cap bs HTD.out (by omega) hft htn hn hcap).mono ?_
                rintro e we ⟨rfl, hbe⟩
                have hse := hbe.size
                have j0 := (hbe.cell (p := ⟨wc.heap.size, 0, none⟩) lkb).trans k0
                have j1' := (hbe.cell (p := ⟨wc.heap.size, 1, none⟩) lkb).trans k1
                have j2' := (hbe.cell (p := ⟨wc.heap.size, 2, none⟩) lkb).trans k2
                have j3 := (hbe.cell (p := ⟨wc.heap.size, 3, none⟩) lkb).trans k3
                have hB3 : Below wb.heap.size wb we := HB2'.out.trans (hbe.mono (by omega))
                have rk3 := ownsRow_below QRK.out hB3
                have ro3 := ownsRow_below QRO.out hB3
                have hgo : gk ≠ go := by
                  rcases HA.out.2.2.2.2.2.2.2 with h | h
                  · cases h
                  · intro e
                    exact h (by rw [own_some, own_some, e])
                have hgo' : go ≠ gk := fun e => hgo e.symm
                have HB3 := hide hB3
                obtain ⟨L, hLg⟩ : ∃ L, L = ld bs f (t - f) := ⟨_, rfl⟩
                have hL' : L < 281474976710656 := by rw [hLg, ← HLD.out]; exact hL
                have HLE : Hid (ldE bs es y = L) := by rw [hLg]; exact HLD.out
                rw [← hLg]
                have hor := or_run (orL bs es a1) L hOr hL'
                clear hbe hB3 k0 k1 k2 k3 hLg hL hOr
                obtain ⟨m, hm⟩ : ∃ m, m = lk + a1.length := ⟨_, rfl⟩
                rw [← hm] at rk3 ro3
                rw [← hm]
                obtain ⟨⟨u0', p0⟩, q0⟩ := row_room rk3 (m * 4) (by omega)
                obtain ⟨⟨u1', p1⟩, q1⟩ := row_room rk3 (m * 4 + 1) (by omega)
                obtain ⟨⟨u2', p2⟩, q2⟩ := row_room rk3 (m * 4 + 2) (by omega)
                obtain ⟨⟨u3', p3⟩, q3⟩ := row_room rk3 (m * 4 + 3) (by omega)
                obtain ⟨⟨u4', p4⟩, q4⟩ := row_room ro3 m (by omega)
                have m1 : (m : Int) + 1 ≤ (ck2 : Int) := by omega
                have m2 : (m : Int) + 1 ≤ (co2 : Int) := by omega
                have m3 : (0 : Int) ≤ (m : Int) + 1 := by omega
                have m6 : (m : Int) < (ck2 : Int) := by omega
                have m7 : (m : Int) < (co2 : Int) := by omega
                have m8 : m + 1 ≤ ck2 := by omega
                have m10 : IntKind.i64.wrap ((m : Int) + 1) = (m : Int) + 1 := by rw [IntKind.wrap_i64]; omega
                have m11 : m ≤ 20000 := by omega
                have m12 : lk ≤ m := by omega
                have m9 : m + 1 ≤ co2 := by omega
                have m4 : ((m : Int) + 1).toNat = m + 1 := by omega
                have m5 : (m : Int) < (m : Int) + 1 := by omega
                have hoi : bits .or .u64 ((L : Int) * 65536) ((m : Int) - (lk : Int)) = ((L * 65536 + a1.length : Nat) : Int) := by
                  rw [show (m : Int) - (lk : Int) = ((a1.length : Nat) : Int) by omega]
                  exact or16_run L _ hL' (by omega)
                have hoi2 : bits .or .u64 ((L : Int) * 65536) ((m - lk : Nat) : Int) = ((L * 65536 + a1.length : Nat) : Int) := by
                  rw [show m - lk = a1.length by omega]
                  exact or16_run L _ hL' (by omega)
                have HM := hide hm
                clear rk3 ro3 hm
                go_upto_region 23 with (fail)
                go_quiet (fail)
                go_upto_region 24 with (fail)
                go_wp2
                go_roundw
                case rel =>
                  have hstep := AMR.step (W := we.drewN nq) HA.out ⟨HB3.out.os, HB3.out.tape, HB3.out.output, HB3.out.size, HB3.out.block⟩ (by omega) (by omega) HKE.out (by rw [HLE.out])
                  rw [← HM.out] at hstep
                  have hlen : lk + (a1 ++ [y]).length = m + 1 := by rw [List.length_append, HM.out]; simp; omega
                  refine ⟨a1 ++ [y], a2, nxt bs es (y + 1), _, r + 1, ck2, co2, rfl, ?_, rfl, ?_, by go_num, by omega, ?_, ?_, ?_, ?_, ?_, ?_, hstep⟩
                  · rw [orL_snoc, HLE.out]
                  · rw [IntKind.wrap_u64]; omega
                  · rw [hlen]
                  · rw [hlen]
                  · have hm' := HM.out; rw [hlen]; omega
                  · have hm' := HM.out; rw [hlen]; omega
                  · omega
                  · exact .inr (by omega)
                case measure =>
                  show 40 - ((r : Int) + 1).toNat < 40 - ((r : Int)).toNat
                  omega
          · have d1 : decide ((r : Int) < 32) = false := by simp; omega
            have hpy : p < y := by omega
            go_wp2_with fail
            refine (canonical_any bd D y es HNT.out (by omega) (by omega)).mono ?_
            rintro e w' ⟨rfl, hw⟩
            have hw := hw.symm
            subst hw
            go_wp2
            go_roundw
            case rel => exact ⟨a1, y :: a2, y, h2, rfl, rfl, rfl, hh2, HA.out⟩
            case measure =>
              show 20000 - ((y : Int)).toNat < 20000 - ((p : Int)).toNat
              omega

end Go.Proofs.Qxb6616638aGreatFmt
