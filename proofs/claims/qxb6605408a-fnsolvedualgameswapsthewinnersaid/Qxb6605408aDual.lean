import Derived.Test.Qxb6605408aDualM
import Derived.Test.Qxb6605408aSReady
import Derived.Test.Qxb6605408aBytes
import Derived.Test.Qxb6605408aTooBig
namespace Go.Proofs.Qxb6605408a
open Go.RowKit
set_option linter.unusedVariables false

attribute [local go_sem ↓] Go.wp_at_zero Go.wp_at_succ

set_option maxRecDepth 100000 in
set_option maxHeartbeats 16000000 in
theorem dual_any (d : SD) (x : SA) (at1 : Option Addr) (nt ct : Nat) (ft : Nat → Int) (dp : Int) (w : World) (hr : SRows w d x) (rt : Row w at1 nt (fun i => .int .i32 (ft i))) (hl : Lens d nt)
    (it : I32 ft) (iS : I32 d.fSt) (iU : I32 d.fSu) (iP : I32 d.fPS) (iR : I32 d.fPr) (iPr : I32 d.fP) :
    Calls Try.prog 5 #[.agg (vals d x), .slice at1 nt ct, .int .i32 dp] w fun e w' => e = .returned (.bool true) ∧ Below w.heap.size w w' := by
  show Calls Try.prog 5 #[.agg #[.slice x.aV d.nV x.cV, .slice x.aP d.nP x.cP, .slice x.aSt d.nSt x.cSt, .slice x.aSu d.nSu x.cSu, .slice x.aL d.nL x.cL, .slice x.aW d.nW x.cW, .slice x.aA d.nA x.cA, .slice x.aC d.nC x.cC, .slice x.aR d.nR x.cR, .int .i32 d.at_, .slice x.aPS d.nPS x.cPS, .slice x.aPr d.nPr x.cPr, .slice x.aVL d.nVL x.cVL], .slice at1 nt ct, .int .i32 dp] w _
  have HR := hide hr
  have HT := hide rt
  have HL := hide hl
  have HI := hide (And.intro it (And.intro iS (And.intro iU (And.intro iP (And.intro iR iPr)))))
  clear hr rt hl it iS iU iP iR iPr
  go_enter Try.func5, Try.ntmps5
  go_wp2_with fail
  have hb0 : Below w.heap.size w (w.alloc (.cells (vals d x) 25)) := (Below.refl _ _).alloc (Nat.le_refl _) _
  refine (bytes18_any d x at1 nt ct dp _ (unhide HL)).mono ?_
  rintro e w1 ⟨⟨r, rfl⟩, hb1⟩
  have hbox := (box_new w d x).below hb1
  have hB1 := hb0.trans (hb1.mono hb0.size)
  have HB1 := hide hB1
  have BX := hide hbox
  obtain ⟨c0, c1, c2, c3, c4, c5, c6, c7, c8, c9, c10, c11, c12⟩ := hbox.cells
  clear hb0 hb1 hbox hB1 HL
  cases r
  · go_wp2
    go_ret
    exact ⟨rfl, unhide HB1⟩
  go_wp2_with fail
  refine (tooBig_any d x at1 nt ct w1).mono ?_
  rintro e w2 ⟨⟨r, rfl, hr2⟩, hb2⟩
  have hbox := (unhide BX).below hb2
  have hB2 := (unhide HB1).trans (hb2.mono (unhide HB1).size)
  have HB2 := hide hB2
  have HR2 := hide hr2
  clear hb2 hB2 hr2 HB1 BX c0 c1 c2 c3 c4 c5 c6 c7 c8 c9 c10 c11 c12
  have BX := hide hbox
  obtain ⟨c0, c1, c2, c3, c4, c5, c6, c7, c8, c9, c10, c11, c12⟩ := hbox.cells
  cases r
  case true =>
    go_wp2
    go_ret
    exact ⟨rfl, unhide HB2⟩
  obtain ⟨hs, hnt⟩ := unhide HR2 rfl
  have HS := hide hs
  have hnV := hs.sV
  have HBL := hide hbox.lt
  clear hbox hs HR2
  go_wp2_with fail
  refine (cloneSolver_any d x w2 (unhide HS) ((unhide HR).below (unhide HB2))).mono ?_
  rintro e w3 ⟨x', rfl, hown, hb3⟩
  have hbox := (unhide BX).below hb3
  have hB3 := (unhide HB2).trans (hb3.mono (unhide HB2).size)
  have HB3 := hide hB3
  have HO := hide hown
  have HZ23 := hide hb3.size
  clear hb3 hB3 hown BX c0 c1 c2 c3 c4 c5 c6 c7 c8 c9 c10 c11 c12
  have BX := hide hbox
  obtain ⟨c0, c1, c2, c3, c4, c5, c6, c7, c8, c9, c10, c11, c12⟩ := hbox.cells
  obtain ⟨z0, z1, z2, z3, z4, z5, z6, z7, z8, z9, z10, z11, z12⟩ := hbox.froz
  clear hbox HR
  simp only [vals]
  go_wp2_with fail
  obtain ⟨W4, hW4⟩ : ∃ W, W = boxed w3 w.heap.size d x' := ⟨_, rfl⟩
  have hbx4 : Box W4 w.heap.size d x' := by rw [hW4]; exact boxed_box (unhide BX)
  have hc4 : Chg (fun k => k = w.heap.size) w3 W4 := by rw [hW4]; exact boxed_chg _ _ _ _
  unfold boxed at hW4
  rw [← hW4]
  clear hW4 c0 c1 c2 c3 c4 c5 c6 c7 c8 c9 c10 c11 c12 z0 z1 z2 z3 z4 z5 z6 z7 z8 z9 z10 z11 z12
  have hown4 : SOwn W4 w2.heap.size d x' := (unhide HO).chg hc4 (fun y hy e => by have h1 := (unhide HO).low y hy; have h2 := unhide HBL; omega)
  have hB4 : Below w.heap.size w W4 := (unhide HB3).trans (hc4.toBelow (unhide HB3).size (fun k e => Nat.le_of_eq e.symm))
  have HFL := hide hown4.lt
  have HZ24 : Hid (w2.heap.size ≤ W4.heap.size) := Nat.le_trans (unhide HZ23) hc4.size
  clear BX HO HB3 hc4
  refine (cloneI_any at1 nt ct ft W4 hnt ((unhide HT).below hB4)).mono ?_
  rintro e w5 ⟨at', ct', rfl, ho5, hcap5, hb5, hbl5⟩
  have hbx5 := hbx4.below hb5
  have hown5 := hown4.below hb5
  have hB5 := hB4.trans (hb5.mono hB4.size)
  have HAT := hide hbl5
  have HZ45 := hide hb5.size
  have HZ2 : Hid (w2.heap.size ≤ w5.heap.size) := Nat.le_trans (unhide HZ24) hb5.size
  have HO := hide hown5
  have HT5 := hide ho5
  have HB5 := hide hB5
  have BX := hide hbx5
  obtain ⟨c0, c1, c2, c3, c4, c5, c6, c7, c8, c9, c10, c11, c12⟩ := hbx5.cells
  clear hbx4 hown4 hB4 hb5 hbl5 hbx5 hown5 ho5 hB5 HT hcap5
  go_wp2_with fail
  refine (sready_any d x' at' nt ct' ft dp w5 (unhide HS) (unhide HO).rows hnt (unhide HT5).row (unhide HI).1 (unhide HI).2.1 (unhide HI).2.2.1 (unhide HI).2.2.2.1 (unhide HI).2.2.2.2.1).mono ?_
  rintro e w6 ⟨⟨ai, ni, ci, ps, z, r, rfl, hr6⟩, hb6⟩
  have hbox := (unhide BX).below hb6
  have HO6 := hide ((unhide HO).below hb6)
  have HT6 := hide ((unhide HT5).below hb6)
  have HB6 := hide ((unhide HB5).trans (hb6.mono (unhide HB5).size))
  have HZ56 := hide hb6.size
  have HR6 := hide hr6
  clear hb6 hr6 HB5 HO HT5 BX c0 c1 c2 c3 c4 c5 c6 c7 c8 c9 c10 c11 c12
  have BX := hide hbox
  obtain ⟨c0, c1, c2, c3, c4, c5, c6, c7, c8, c9, c10, c11, c12⟩ := hbox.cells
  clear hbox
  cases r
  · go_wp2
    go_ret
    exact ⟨rfl, unhide HB6⟩
  have hok := unhide HR6 rfl
  obtain ⟨gI, rfl, rfl, hgI, hrI⟩ := hok.inV
  have HST := hide hok.st
  have HNP := hide hok.nP
  have HNW := hide hok.nW
  have HTG := hide hok.tg
  have HRI := hide hrI
  have HGI := hide hgI
  clear hok HR6 hrI hgI
  go_wp2_with fail
  refine (noTop_any d x' at' nt ct' ft w6 (unhide HO6).rows (unhide HS) hnt (unhide HT6).row (unhide HNP) (unhide HTG)).mono ?_
  rintro e w7 ⟨⟨r, rfl, hr7⟩, hb7⟩
  have hbox := (unhide BX).below hb7
  have HO7 := hide ((unhide HO6).below hb7)
  have HT7 := hide ((unhide HT6).below hb7)
  have HRI7 := hide ((unhide HRI).of_block (hb7.block _ (unhide HRI).lt))
  have HB7 := hide ((unhide HB6).trans (hb7.mono (unhide HB6).size))
  have HZ67 := hide hb7.size
  have HNO := hide hr7
  clear hb7 hr7 HB6 HO6 HT6 BX c0 c1 c2 c3 c4 c5 c6 c7 c8 c9 c10 c11 c12
  have BX := hide hbox
  obtain ⟨c0, c1, c2, c3, c4, c5, c6, c7, c8, c9, c10, c11, c12⟩ := hbox.cells
  clear hbox
  cases r
  · go_wp2
    go_ret
    exact ⟨rfl, unhide HB7⟩
  have HNT := hide (unhide HNO rfl)
  have HLAW := hide (dual_all (dp := dp) (unhide HST) (unhide HI).2.2.2.2.2 (unhide HTG) (unhide HNT) (unhide HNW))
  clear HNO HNT HI
  go_wp2_with fail
  refine (cloneSolver_any d x' w7 (unhide HS) (unhide HO7).rows).mono ?_
  rintro e w8 ⟨x2, rfl, hown2, hb8⟩
  simp only [vals]
  have HOX := hide hown2
  have HB8 := hide hb8
  obtain ⟨e0, e1, e2, e3, e4, e5, e6, e7, e8, e9, e10, e11, e12⟩ := ((unhide BX).below hb8).cells
  clear c0 c1 c2 c3 c4 c5 c6 c7 c8 c9 c10 c11 c12 hown2 hb8
  go_wp2_with fail
  have hb9 : Below w8.heap.size w8 (w8.alloc (.cells (vals d x2) 25)) := (Below.refl _ _).alloc (Nat.le_refl _) _
  obtain ⟨W9, hW9⟩ : ∃ W, W = w8.alloc (.cells (vals d x2) 25) := ⟨_, rfl⟩
  rw [← hW9] at hb9
  have hbo : Box W9 w8.heap.size d x2 := by rw [hW9]; exact box_new _ _ _
  have hz9 : W9.heap.size = w8.heap.size + 1 := by rw [hW9]; simp
  simp only [vals] at hW9
  rw [← hW9]
  have hb79 : Below w7.heap.size w7 W9 := (unhide HB8).trans (hb9.mono (unhide HB8).size)
  have HO9 := hide ((unhide HO7).below hb79)
  have HT9 := hide ((unhide HT7).below hb79)
  have HRI9 := hide ((unhide HRI7).of_block (hb79.block _ (unhide HRI7).lt))
  have HB9 := hide ((unhide HB7).trans (hb79.mono (unhide HB7).size))
  have BX9 := hide ((unhide BX).below hb79)
  have HOX9 := hide ((unhide HOX).below hb9)
  have BO9 := hide hbo
  have HZ27 : Hid (w2.heap.size ≤ w7.heap.size ∧ w.heap.size < w2.heap.size) := ⟨by
    have h1 := unhide HZ2
    have h2 := unhide HZ56
    have h3 := unhide HZ67
    omega, unhide HBL⟩
  have HBL2 := HZ27
  have HZ45b := HZ45
  have HXL := hide (unhide HOX).lt
  have HSZ : Hid (w7.heap.size ≤ w8.heap.size ∧ W9.heap.size = w8.heap.size + 1 ∧ gI < w7.heap.size ∧ W4.heap.size ≤ w7.heap.size ∧ w5.heap.size ≤ w7.heap.size) := ⟨(unhide HB8).size, hz9, (unhide HRI7).lt, by
    have h1 := unhide HZ45
    have h2 := unhide HZ56
    have h3 := unhide HZ67
    omega, by
    have h2 := unhide HZ56
    have h3 := unhide HZ67
    omega⟩
  clear hW9 hb9 hbo hz9 hb79 e0 e1 e2 e3 e4 e5 e6 e7 e8 e9 e10 e11 e12 BX HOX HB8 HO7 HT7 HRI7 HRI HB7 HZ45 HZ56 HZ67
  go_wp2
  go_loopw [13] (fun i wr => ∃ v : Nat, v ≤ d.nV ∧ i = .int .i64 v ∧ Hid (ORow wr 4 x2.aV d.nV (fun i => .bool (if i < v then !d.fV i else d.fV i))) ∧ Hid (ORow wr 21 x2.aP d.nP (fun i => .int .i32 (if i < v then wrap32 (d.fP i + 1) else d.fP i))) ∧ Hid (Chg (vp x2) W9 wr)) (fun i _ => d.nV - (intOf i).toNat)
  case atStart => exact ⟨0, Nat.zero_le _, rfl, (unhide HOX9).oV, (unhide HOX9).oP, Chg.refl _ _⟩
  case round =>
    obtain ⟨v, hv, rfl, HV, HP, HC⟩ := hrel
    have hvp : ∀ k, vp x2 k → w7.heap.size ≤ k ∧ k < w8.heap.size + 1 := fun k h => by
      have h1 := (unhide HOX9).low
      have h2 := (unhide HOX9).lt
      have h3 := (unhide HSZ).2.1
      rcases h with ⟨y, e, f⟩ | ⟨y, e, f⟩
      · have := h1 y (.inl e); have := h2 y (.inl e); omega
      · have := h1 y (.inr (.inl e)); have := h2 y (.inr (.inl e)); omega
    have HVP := hide hvp
    by_cases hvl : v < d.nV
    · have hnP := unhide HNP
      obtain ⟨gV, haV, rV⟩ := unhide HV (by omega)
      obtain ⟨gP, haP, rP⟩ := unhide HP (by omega)
      have hbw : Below w7.heap.size W9 wr := (unhide HC).toBelow (by have := unhide HSZ; omega) (fun k h => (hvp k h).1)
      have own1 : SOwn wr w2.heap.size d x' := (unhide HO9).chg (unhide HC) (fun y hy h => by
        have h1 := unhide HFL y hy
        have h2 := (hvp _ h).1
        have h3 := unhide HSZ
        omega)
      obtain ⟨fV, hfV, sV⟩ := own1.oV (by omega)
      obtain ⟨fP, hfP, sP⟩ := own1.oP (by omega)
      obtain ⟨c0, c1, c2, c3, c4, c5, c6, c7, c8, c9, c10, c11, c12⟩ := ((unhide BX9).chg (unhide HC) (fun h => by have h1 := (hvp _ h).1; have h2 := (unhide HB9).size; have h3 := unhide HBL; have h4 := (unhide HO9).low; have h5 := unhide HZ27; omega)).cells
      obtain ⟨e0, e1, e2, e3, e4, e5, e6, e7, e8, e9, e10, e11, e12⟩ := ((unhide BO9).chg (unhide HC) (fun h => by
        rcases h with ⟨y, e, f⟩ | ⟨y, e, f⟩
        · have h1 := unhide HXL y (.inl e); omega
        · have h1 := unhide HXL y (.inr (.inl e)); omega)).cells
      have k0 : wr.cell? ⟨w.heap.size, 0, none⟩ = some (.slice (some ⟨fV, 0, none⟩) d.nV x'.cV) := by rw [c0, hfV]
      have k1 : wr.cell? ⟨w.heap.size, 1, none⟩ = some (.slice (some ⟨fP, 0, none⟩) d.nP x'.cP) := by rw [c1, hfP]
      have m0 : wr.cell? ⟨w8.heap.size, 0, none⟩ = some (.slice (some ⟨gV, 0, none⟩) d.nV x2.cV) := by rw [e0, haV]
      have m1 : wr.cell? ⟨w8.heap.size, 1, none⟩ = some (.slice (some ⟨gP, 0, none⟩) d.nP x2.cP) := by rw [e1, haP]
      have sv : wr.cell? ⟨fV, v, none⟩ = some (.bool (d.fV v)) := sV.cell hvl
      have sp : wr.cell? ⟨fP, v, none⟩ = some (.int .i32 (d.fP v)) := sP.cell (by omega)
      have rv : wr.cell? ⟨gV, v, none⟩ = some (.bool (if v < v then !d.fV v else d.fV v)) := rV.cell hvl
      have rvf : wr.frozen? ⟨gV, v, none⟩ = false := rV.frozen v
      have hdiff : gV ≠ gP := (unhide HOX9).vpDiff _ _ haV haP
      have hgV := hvp gV (.inl ⟨_, haV, rfl⟩)
      have lV := unhide HFL _ (.inl hfV)
      have lP := unhide HFL _ (.inr (.inl hfP))
      have hszz := unhide HSZ
      have hbl := unhide HBL2
      have hgVo : gV ≠ w8.heap.size := by have h1 := unhide HXL _ (.inl haV); dsimp only at h1; omega
      dsimp only at lV lP
      have hcv : ∀ b i, b ≠ gV → (wr.setCell ⟨gV, v, none⟩ (.bool (!d.fV v))).cell? ⟨b, i, none⟩ = wr.cell? ⟨b, i, none⟩ := fun b i hb => cell_setCell_other (fun h => hb (by rw [Addr.mk.injEq] at h; exact h.1.symm))
      have k1' : (wr.setCell ⟨gV, v, none⟩ (.bool (!d.fV v))).cell? ⟨w.heap.size, 1, none⟩ = some (.slice (some ⟨fP, 0, none⟩) d.nP x'.cP) := (hcv _ _ (by omega)).trans k1
      have m1' : (wr.setCell ⟨gV, v, none⟩ (.bool (!d.fV v))).cell? ⟨w8.heap.size, 1, none⟩ = some (.slice (some ⟨gP, 0, none⟩) d.nP x2.cP) := (hcv _ _ (fun h => hgVo h.symm)).trans m1
      have sp' : (wr.setCell ⟨gV, v, none⟩ (.bool (!d.fV v))).cell? ⟨fP, v, none⟩ = some (.int .i32 (d.fP v)) := (hcv _ _ (by omega)).trans sp
      have rp' : (wr.setCell ⟨gV, v, none⟩ (.bool (!d.fV v))).cell? ⟨gP, v, none⟩ = some (.int .i32 (if v < v then wrap32 (d.fP v + 1) else d.fP v)) := (hcv _ _ (fun h => hdiff h.symm)).trans (rP.cell (by omega))
      have rpf' : (wr.setCell ⟨gV, v, none⟩ (.bool (!d.fV v))).frozen? ⟨gP, v, none⟩ = false := (World.frozen?_setCell _ _ _ _).trans (rP.frozen v)
      have hvi : (v : Int) < (d.nV : Int) := by omega
      have hpi : (v : Int) < (d.nP : Int) := by omega
      have HRV := hide rV
      have HRP := hide rP
      have HAV := hide haV
      have HAP := hide haP
      have HDF := hide hdiff
      clear rV rP haV haP hbw own1 sV sP hfV hfP hcv hnP lV lP hszz hbl hgV hgVo hdiff hvp c0 c1 c2 c3 c4 c5 c6 c7 c8 c9 c10 c11 c12 e0 e1 e2 e3 e4 e5 e6 e7 e8 e9 e10 e11 e12
      go_wp2
      go_region
      go_wp2
      go_region
      go_wp2
      go_roundw
      case rel =>
        refine ⟨v + 1, by omega, by go_num, fun _ => ⟨gV, unhide HAV, ?_⟩, fun _ => ⟨gP, unhide HAP, ?_⟩, ?_⟩
        · refine World.rowIs.congr (((unhide HRV).set v (.bool (!d.fV v))).setOther (fun h => unhide HDF h) _) (fun i hi => ?_)
          by_cases e : i = v
          · subst e; rw [if_pos rfl, if_pos (by omega)]
          · rw [if_neg e]
            by_cases e2 : i < v
            · rw [if_pos e2, if_pos (by omega)]
            · rw [if_neg e2, if_neg (by omega)]
        · refine World.rowIs.congr (((unhide HRP).setOther (fun h => unhide HDF h.symm) _).set v (.int .i32 (wrap32 (d.fP v + 1)))) (fun i hi => ?_)
          by_cases e : i = v
          · subst e; rw [if_pos rfl, if_pos (by omega)]
          · rw [if_neg e]
            by_cases e2 : i < v
            · rw [if_pos e2, if_pos (by omega)]
            · rw [if_neg e2, if_neg (by omega)]
        · have hX := (((unhide HC).setCell (p := ⟨gV, v, none⟩) (fun _ => .inl ⟨_, unhide HAV, rfl⟩) (.bool (!d.fV v))).setCell (p := ⟨gP, v, none⟩) (fun _ => .inr ⟨_, unhide HAP, rfl⟩) (.int .i32 (wrap32 (d.fP v + 1))))
          exact ⟨hX.os, hX.tape, hX.output, hX.size, hX.block⟩
      case measure => simp [intOf]; omega
    · have hve : v = d.nV := by omega
      subst hve
      obtain ⟨w10, rfl⟩ : ∃ w10, w10 = wr := ⟨_, rfl⟩
      have hszz := unhide HSZ
      have hbw : Below w7.heap.size W9 w10 := (unhide HC).toBelow (by omega) (fun k h => (unhide HVP k h).1)
      have HOD : Hid (SOwn w10 w7.heap.size (dualOf d) x2) := (unhide HOX9).dual (unhide HC) ((unhide HV).congr (fun i hi => by rw [if_pos hi])) ((unhide HP).congr (fun i hi => by rw [if_pos (by have := unhide HNP; omega)]))
      have HO10 : Hid (SOwn w10 w2.heap.size d x') := (unhide HO9).chg (unhide HC) (fun y hy h => by
        have h1 := unhide HFL y hy
        have h2 := (unhide HVP _ h).1
        omega)
      have HT10 : Hid (ORow w10 21 at' nt (fun i => .int .i32 (ft i))) := (unhide HT9).chg (unhide HC) (fun y e h => by
        have h1 := unhide HAT y e
        have h2 := (unhide HVP _ h).1
        omega)
      have HRI10 : Hid (w10.rowIs gI 4 d.nV (fun v => .bool (seenTo ft nt v))) := (unhide HRI9).of_block (hbw.block _ hszz.2.2.1)
      have HB10 : Hid (Below w.heap.size w w10) := (unhide HB9).trans (hbw.mono (by have := unhide HZ27; omega))
      have BX10 : Hid (Box w10 w.heap.size d x') := (unhide BX9).chg (unhide HC) (fun h => by have h1 := (unhide HVP _ h).1; have h2 := unhide HZ27; omega)
      have BO10 : Hid (Box w10 w8.heap.size d x2) := (unhide BO9).chg (unhide HC) (fun h => by
        rcases h with ⟨y, e, f⟩ | ⟨y, e, f⟩
        · have h1 := unhide HXL y (.inl e); omega
        · have h1 := unhide HXL y (.inr (.inl e)); omega)
      have HZ10 : Hid (W9.heap.size ≤ w10.heap.size) := (unhide HC).size
      obtain ⟨c0, c1, c2, c3, c4, c5, c6, c7, c8, c9, c10, c11, c12⟩ := (unhide BX10).cells
      obtain ⟨e0, e1, e2, e3, e4, e5, e6, e7, e8, e9, e10, e11, e12⟩ := (unhide BO10).cells
      clear hszz hbw hvp HV HP HC HO9 HOX9 HT9 HRI9 HB9 BX9 BO9 HVP hv hvl
      go_wp2_with fail
      refine (cloneI_any at' nt ct' ft w10 hnt (unhide HT10).row).mono ?_
      rintro e w11 ⟨aD, cD, rfl, oTD, kTD, hb11, hl11⟩
      have HOD11 := hide ((unhide HOD).below hb11)
      have HO11 := hide ((unhide HO10).below hb11)
      have HT11 := hide ((unhide HT10).below hb11)
      have HTD11 := hide oTD
      have HRI11 := hide ((unhide HRI10).of_block (hb11.block _ (unhide HRI10).lt))
      have HB11 := hide ((unhide HB10).trans (hb11.mono (unhide HB10).size))
      have BO11 := hide ((unhide BO10).below hb11)
      have HLD := hide hl11
      have HZ11 : Hid (w10.heap.size ≤ w11.heap.size) := hb11.size
      clear c0 c1 c2 c3 c4 c5 c6 c7 c8 c9 c10 c11 c12 e0 e1 e2 e3 e4 e5 e6 e7 e8 e9 e10 e11 e12
      obtain ⟨c0, c1, c2, c3, c4, c5, c6, c7, c8, c9, c10, c11, c12⟩ := ((unhide BX10).below hb11).cells
      clear hb11 hl11 oTD kTD HOD HO10 HT10 HRI10 HB10 BX10 BO10
      go_wp2_with fail
      refine (newSolver_any d x' w2.heap.size w11 (unhide HO11)).mono ?_
      rintro e w12 ⟨rfl, hm12, hb12, hz12⟩
      obtain ⟨sb1, hsb1⟩ : ∃ sb1, sb1 = w11.heap.size + 1 := ⟨_, rfl⟩
      rw [← hsb1] at hm12 ⊢
      have HM12 := hide hm12
      have HOD12 := hide ((unhide HOD11).below hb12)
      have HT12 := hide ((unhide HT11).below hb12)
      have HTD12 := hide ((unhide HTD11).below hb12)
      have HRI12 := hide ((unhide HRI11).of_block (hb12.block _ (unhide HRI11).lt))
      have HB12 := hide ((unhide HB11).trans (hb12.mono (unhide HB11).size))
      have HZ12 : Hid (sb1 = w11.heap.size + 1 ∧ w11.heap.size + 2 ≤ w12.heap.size) := ⟨hsb1, hz12⟩
      clear c0 c1 c2 c3 c4 c5 c6 c7 c8 c9 c10 c11 c12
      obtain ⟨c0, c1, c2, c3, c4, c5, c6, c7, c8, c9, c10, c11, c12⟩ := ((unhide BO11).below hb12).cells
      clear hm12 hb12 hz12 hsb1 HOD11 HO11 HT11 HTD11 HRI11 HB11 BO11
      go_wp2_with fail
      have HNEW := hide (newSolver_any (dualOf d) x2 w7.heap.size w12 (unhide HOD12))
      refine (unhide HNEW).mono ?_
      clear HNEW
      rintro e w13 ⟨rfl, hm13, hb13, hz13⟩
      obtain ⟨sb2, hsb2⟩ : ∃ sb2, sb2 = w12.heap.size + 1 := ⟨_, rfl⟩
      rw [← hsb2] at hm13 ⊢
      have HMD13 := hide hm13
      have HM13 := hide ((unhide HM12).below hb13)
      have HT13 := hide ((unhide HT12).below hb13)
      have HTD13 := hide ((unhide HTD12).below hb13)
      have HRI13 := hide ((unhide HRI12).of_block (hb13.block _ (unhide HRI12).lt))
      have HB13 := hide ((unhide HB12).trans (hb13.mono (unhide HB12).size))
      have HZ13 : Hid (sb2 = w12.heap.size + 1 ∧ w12.heap.size + 2 ≤ w13.heap.size) := ⟨hsb2, hz13⟩
      clear hm13 hb13 hz13 hsb2 HM12 HOD12 HT12 HTD12 HRI12 HB12 c0 c1 c2 c3 c4 c5 c6 c7 c8 c9 c10 c11 c12
      have HX1 : Hid (∀ y, isField x' y → w2.heap.size ≤ y.block ∧ y.block < W4.heap.size) := fun y hy => ⟨(unhide HM13).own.low y hy, unhide HFL y hy⟩
      have HX2 : Hid (∀ y, isField x2 y → w7.heap.size ≤ y.block ∧ y.block < w8.heap.size) := fun y hy => ⟨(unhide HMD13).own.low y hy, unhide HXL y hy⟩
      have HNUM : Hid (W4.heap.size ≤ w7.heap.size ∧ w7.heap.size ≤ w8.heap.size ∧ w8.heap.size < w10.heap.size ∧ w10.heap.size ≤ w11.heap.size ∧ sb1 = w11.heap.size + 1 ∧ w11.heap.size + 2 ≤ w12.heap.size ∧ sb2 = w12.heap.size + 1 ∧ w12.heap.size + 2 ≤ w13.heap.size ∧ gI < w7.heap.size ∧ w5.heap.size ≤ w7.heap.size ∧ w2.heap.size ≤ w7.heap.size ∧ w.heap.size < w2.heap.size ∧ w5.heap.size ≤ gI ∧ W4.heap.size ≤ w5.heap.size) := by
        have h0 := unhide HZ45b
        have h1 := unhide HSZ
        have h2 := unhide HZ10
        have h3 := unhide HZ11
        have h4 := unhide HZ12
        have h5 := unhide HZ13
        have h6 := unhide HZ27
        have h7 := unhide HGI
        exact ⟨by omega, by omega, by omega, by omega, by omega, by omega, by omega, by omega, by omega, by omega, by omega, by omega, by omega, h0⟩
      have HW1 : Hid (∀ k, wr6 x' sb1 k → (w2.heap.size ≤ k ∧ k < W4.heap.size) ∨ k = sb1) := fun k h => by
        rcases wr6_cases h with ⟨y, hy, f⟩ | f
        · have := unhide HX1 y hy; exact .inl ⟨by omega, by omega⟩
        · exact .inr f
      have HW2 : Hid (∀ k, wr6 x2 sb2 k → (w7.heap.size ≤ k ∧ k < w8.heap.size) ∨ k = sb2) := fun k h => by
        rcases wr6_cases h with ⟨y, hy, f⟩ | f
        · have := unhide HX2 y hy; exact .inl ⟨by omega, by omega⟩
        · exact .inr f
      have HSOLVE := hide (zzSolve_any d x' w2.heap.size sb1 w11.heap.size nt (dsOf d) (lst nt ft) nt at' ct' dp w13 (lst_len nt ft) (solve_any d x' w2.heap.size sb1 w11.heap.size (unhide HS) (unhide HST) (unhide HNP) (unhide HNW) nt (dsOf d) (lst nt ft) at' ct' dp w13 (by rw [lst_len]; exact Nat.le_refl _) hnt (fun v hv => by
          obtain ⟨i, hi, e⟩ := lst_mem.1 hv
          have h := unhide HTG i hi
          unfold toN at e
          omega) (unhide HM13) (lst_row (unhide HT13).row (fun i hi => (unhide HTG i hi).1)) (fun _ y e h => by
          have h1 := unhide HAT y e
          have h2 := unhide HNUM
          rcases unhide HW1 _ h with h3 | h3 <;> omega)))
      clear HSZ HZ10 HZ11 HZ12 HZ13 HZ27 HGI HBL2
      go_wp2_with fail
      refine (unhide HSOLVE).mono ?_
      clear HSOLVE
      rintro e w14 ⟨rfl, hm14, hc14⟩
      have HM14 := hide hm14
      have HMD14 : Hid (InMem w14 w7.heap.size (dualOf d) x2 sb2 w12.heap.size) := (unhide HMD13).chg hc14 (fun h => by have h2 := unhide HNUM; rcases unhide HW1 _ h with h3 | h3 <;> omega) (fun h => by have h2 := unhide HNUM; rcases unhide HW1 _ h with h3 | h3 <;> omega) (fun y hy h => by have h1 := unhide HX2 y hy; have h2 := unhide HNUM; rcases unhide HW1 _ h with h3 | h3 <;> omega)
      have HTD14 : Hid (ORow w14 21 aD nt (fun i => .int .i32 (ft i))) := (unhide HTD13).chg hc14 (fun y e h => by have h1 := unhide HLD y e; have h2 := unhide HNUM; rcases unhide HW1 _ h with h3 | h3 <;> omega)
      have HRI14 := hide ((unhide HRI13).of_block (hc14.block _ (unhide HRI13).lt (fun h => by have h2 := unhide HNUM; rcases unhide HW1 _ h with h3 | h3 <;> omega)))
      have HB14 := hide ((unhide HB13).trans (hc14.toBelow (unhide HB13).size (fun k h => by have h2 := unhide HNUM; rcases unhide HW1 _ h with h3 | h3 <;> omega)))
      have HZ14 : Hid (w13.heap.size ≤ w14.heap.size) := hc14.size
      clear hm14 hc14 HMD13 HM13 HT13 HTD13 HRI13 HB13
      have HSOLVE := hide (zzSolve_any (dualOf d) x2 w7.heap.size sb2 w12.heap.size nt (dsOf (dualOf d)) (lst nt ft) nt aD cD dp w14 (lst_len nt ft) (solve_any (dualOf d) x2 w7.heap.size sb2 w12.heap.size (small_dual (unhide HS)) (state_dual (unhide HST)) (unhide HNP) (unhide HNW) nt (dsOf (dualOf d)) (lst nt ft) aD cD dp w14 (by rw [lst_len]; exact Nat.le_refl _) hnt (fun v hv => by
          obtain ⟨i, hi, e⟩ := lst_mem.1 hv
          have h := unhide HTG i hi
          unfold toN at e
          show v < d.nV
          omega) (unhide HMD14) (lst_row (unhide HTD14).row (fun i hi => (unhide HTG i hi).1)) (fun _ y e h => by
          have h1 := unhide HLD y e
          have h2 := unhide HNUM
          rcases unhide HW2 _ h with h3 | h3 <;> omega)))
      go_wp2_with fail
      refine (unhide HSOLVE).mono ?_
      clear HSOLVE
      rintro e w15 ⟨rfl, hm15, hc15⟩
      have HMD15 := hide hm15
      have HM15 : Hid (InMem w15 w2.heap.size (put d (solveF d nt (dsOf d) (lst nt ft) dp)) x' sb1 w11.heap.size) := (unhide HM14).chg hc15 (fun h => by have h2 := unhide HNUM; rcases unhide HW2 _ h with h3 | h3 <;> omega) (fun h => by have h2 := unhide HNUM; rcases unhide HW2 _ h with h3 | h3 <;> omega) (fun y hy h => by have h1 := unhide HX1 y hy; have h2 := unhide HNUM; rcases unhide HW2 _ h with h3 | h3 <;> omega)
      have HRI15 := hide ((unhide HRI14).of_block (hc15.block _ (unhide HRI14).lt (fun h => by have h2 := unhide HNUM; rcases unhide HW2 _ h with h3 | h3 <;> omega)))
      have HB15 := hide ((unhide HB14).trans (hc15.toBelow (unhide HB14).size (fun k h => by have h2 := unhide HNUM; rcases unhide HW2 _ h with h3 | h3 <;> omega)))
      clear hm15 hc15 HM14 HMD14 HTD14 HRI14 HB14
      obtain ⟨R1, hR1⟩ : ∃ R1, R1 = solveF d nt (dsOf d) (lst nt ft) dp := ⟨_, rfl⟩
      obtain ⟨R2, hR2⟩ : ∃ R2, R2 = solveF (dualOf d) nt (dsOf (dualOf d)) (lst nt ft) dp := ⟨_, rfl⟩
      rw [← hR1] at HM15 HLAW
      rw [← hR2] at HMD15 HLAW
      clear hR1 hR2
      go_wp2_with fail
      refine (solverState_any (put d R1) x' w2.heap.size sb1 w11.heap.size w15 (unhide HM15)).mono ?_
      rintro e w16 ⟨hso, hb16⟩
      obtain ⟨pW, hpW⟩ : ∃ p, p = x'.aW := ⟨_, rfl⟩
      have hso' : e = .returned (.tuple #[.slice x'.aL d.nL x'.cL, .slice pW d.nW x'.cW, .slice x'.aA d.nA x'.cA, .slice x'.aC d.nC x'.cC, .slice x'.aR d.nR x'.cR, .int .i32 R1.at_]) := by rw [hpW]; exact hso
      subst hso'
      have HM16 := hide ((unhide HM15).below hb16)
      have HMD16 := hide ((unhide HMD15).below hb16)
      have HRI16 := hide ((unhide HRI15).of_block (hb16.block _ (unhide HRI15).lt))
      have HB16 := hide ((unhide HB15).trans (hb16.mono (unhide HB15).size))
      have HPW := hide hpW
      clear hso hb16 HM15 HMD15 HRI15 HB15 hpW
      go_wp2_with fail
      refine (solverState_any (put (dualOf d) R2) x2 w7.heap.size sb2 w12.heap.size w16 (unhide HMD16)).mono ?_
      rintro e w17 ⟨hso, hb17⟩
      obtain ⟨qW, hqW⟩ : ∃ p, p = x2.aW := ⟨_, rfl⟩
      have hso' : e = .returned (.tuple #[.slice x2.aL d.nL x2.cL, .slice qW d.nW x2.cW, .slice x2.aA d.nA x2.cA, .slice x2.aC d.nC x2.cC, .slice x2.aR d.nR x2.cR, .int .i32 R2.at_]) := by rw [hqW]; exact hso
      subst hso'
      have HRW : Hid (ORow w17 4 pW d.nW (fun i => .bool (R1.won i))) := by show ORow _ _ _ _ _; rw [unhide HPW]; exact ((unhide HM16).below hb17).own.oW
      have HRQ : Hid (ORow w17 4 qW d.nW (fun i => .bool (R2.won i))) := by show ORow _ _ _ _ _; rw [hqW]; exact ((unhide HMD16).below hb17).own.oW
      have HRI17 := hide ((unhide HRI16).of_block (hb17.block _ (unhide HRI16).lt))
      have HB17 := hide ((unhide HB16).trans (hb17.mono (unhide HB16).size))
      have dW : ((d.nW : Int) != (d.nV : Int)) = false := by have h := unhide HNW; rw [bne_eq_false_iff_eq]; omega
      clear hso hb17 HM16 HMD16 HRI16 HB16 hqW
      go_wp2
      clear dW
      go_loopw [29] (fun i wr => ∃ k : Nat, k ≤ d.nV ∧ i = .int .i64 k ∧ Hid (Below w17.heap.size w17 wr)) (fun i _ => d.nV - (intOf i).toNat)
      case atStart => exact ⟨0, Nat.zero_le _, rfl, Below.refl _ _⟩
      case round =>
        obtain ⟨k, hk, rfl, HW⟩ := hrel
        by_cases hkl : k < d.nV
        · have hnW := unhide HNW
          obtain ⟨gp, hgp, rp⟩ := unhide HRW (by omega)
          obtain ⟨gq, hgq, rq⟩ := unhide HRQ (by omega)
          have cI : wr.cell? ⟨gI, k, none⟩ = some (.bool (seenTo ft nt k)) := laterCell (unhide HW) ((unhide HRI17).cell hkl)
          have cp : wr.cell? ⟨gp, k, none⟩ = some (.bool (R1.won k)) := laterCell (unhide HW) (rp.cell (by omega))
          have cq : wr.cell? ⟨gq, k, none⟩ = some (.bool (R2.won k)) := laterCell (unhide HW) (rq.cell (by omega))
          have hki : (k : Int) < (d.nV : Int) := by omega
          have hkw : (k : Int) < (d.nW : Int) := by omega
          clear rp rq hnW
          subst hgp
          subst hgq
          cases hsee : seenTo ft nt k
          · rw [hsee] at cI
            clear hsee
            go_wp2
            go_quiet (fail)
            go_wp2
            go_roundw
            case rel => exact ⟨k + 1, by omega, by go_num, (unhide HW).trans ((below_drawn _ _).mono (unhide HW).size)⟩
            case measure => simp [intOf]; omega
          · rw [hsee] at cI
            have hl := unhide HLAW k hsee
            rw [hl] at cq
            have dk : (R1.won k == !R1.won k) = false := by cases R1.won k <;> rfl
            clear hsee hl
            go_wp2
            go_quiet (fail)
            go_wp2
            go_roundw
            case rel => exact ⟨k + 1, by omega, by go_num, (unhide HW).trans ((below_drawn _ _).mono (unhide HW).size)⟩
            case measure => simp [intOf]; omega
        · have hke : k = d.nV := by omega
          subst hke
          go_wp2
          go_ret
          exact ⟨rfl, (unhide HB17).trans ((unhide HW).mono (unhide HB17).size)⟩

end Go.Proofs.Qxb6605408a
