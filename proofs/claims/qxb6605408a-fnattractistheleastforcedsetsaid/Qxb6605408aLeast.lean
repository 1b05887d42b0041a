import Derived.Test.Qxb6605408aLEnv
namespace Go.Proofs.Qxb6605408a
open Go.RowKit
set_option linter.unusedVariables false

theorem upd_rowB {w : World} {b n i : Nat} {f : Nat → Bool} {v : Bool} (h : w.rowIs b 4 n (fun j => .bool (f j))) : (w.setCell ⟨b, i, none⟩ (.bool v)).rowIs b 4 n (fun j => .bool (upd f i v j)) :=
  (h.set i _).congr (fun j _ => by
    by_cases e : j = i
    · subst e; rw [if_pos rfl, upd_same]
    · rw [if_neg e, upd_other e])

/-- what is compared in the end -/
structure Fin (w : World) (d : SD) (x y : SA) (b c : Nat) (aT aO aWA aWC aWR : Option Addr) (nt : Nat) (ft : Nat → Int) (s : ST) : Prop where
  rA : Row w x.aA d.nA (fun i => .int .i32 (s.att i))
  rC : Row w x.aC d.nC (fun i => .int .i32 (s.cnt i))
  rR : Row w x.aR d.nR (fun i => .int .i32 (s.rem i))
  wA : Row w aWA d.nA (fun i => .int .i32 (if i < d.nV then s.att i else d.fA i))
  wC : Row w aWC d.nC (fun i => .int .i32 (if i < d.nV then s.cnt i else d.fC i))
  wR : Row w aWR d.nR (fun i => .int .i32 (if i < d.nV then s.rem i else d.fR i))
  rL : Row w x.aL d.nL (fun i => .int .i32 (d.fL i))
  qL : Row w y.aL d.nL (fun i => .int .i32 (d.fL i))
  rW : Row w x.aW d.nW (fun i => .bool (d.fW i))
  qW : Row w y.aW d.nW (fun i => .bool (d.fW i))
  rT : Row w aT nt (fun i => .int .i32 (ft i))
  qT : Row w aO nt (fun i => .int .i32 (ft i))
  g1 : GRows w d x
  g2 : GRows w d y
  bx : Box w b d x
  bo : Box w c d y
theorem Fin.below {w w' : World} {d : SD} {x y : SA} {b c : Nat} {aT aO aWA aWC aWR : Option Addr} {nt : Nat} {ft : Nat → Int} {s : ST} (h : Fin w d x y b c aT aO aWA aWC aWR nt ft s) (hb : Below w.heap.size w w') : Fin w' d x y b c aT aO aWA aWC aWR nt ft s :=
  ⟨h.rA.below hb, h.rC.below hb, h.rR.below hb, h.wA.below hb, h.wC.below hb, h.wR.below hb, h.rL.below hb, h.qL.below hb, h.rW.below hb, h.qW.below hb, h.rT.below hb, h.qT.below hb, h.g1.below hb, h.g2.below hb, h.bx.below hb, h.bo.below hb⟩

theorem leftTo_le (g : G) (A : Nat → Bool) (u : Nat) : ∀ k, leftTo g A u k ≤ k
  | 0 => Nat.le_refl _
  | k + 1 => by
    have := leftTo_le g A u k
    unfold leftTo
    split
    · omega
    · split <;> omega

attribute [local go_sem ↓] Go.wp_at_zero Go.wp_at_succ

set_option maxRecDepth 100000 in
set_option maxHeartbeats 16000000 in
theorem least_any (d : SD) (x : SA) (at1 : Option Addr) (nt ct : Nat) (ft : Nat → Int) (vf : Bool) (dp : Int) (w : World) (hr : SRows w d x) (rt : Row w at1 nt (fun i => .int .i32 (ft i))) (hl : Lens d nt)
    (it : I32 ft) (iS : I32 d.fSt) (iU : I32 d.fSu) (iP : I32 d.fPS) (iR : I32 d.fPr) :
    Calls Try.prog 3 #[.agg (vals d x), .slice at1 nt ct, .bool vf, .int .i32 dp] w fun e w' => e = .returned (.bool true) ∧ Below w.heap.size w w' := by
  show Calls Try.prog 3 #[.agg #[.slice x.aV d.nV x.cV, .slice x.aP d.nP x.cP, .slice x.aSt d.nSt x.cSt, .slice x.aSu d.nSu x.cSu, .slice x.aL d.nL x.cL, .slice x.aW d.nW x.cW, .slice x.aA d.nA x.cA, .slice x.aC d.nC x.cC, .slice x.aR d.nR x.cR, .int .i32 d.at_, .slice x.aPS d.nPS x.cPS, .slice x.aPr d.nPr x.cPr, .slice x.aVL d.nVL x.cVL], .slice at1 nt ct, .bool vf, .int .i32 dp] w _
  have HR := hide hr
  have HT := hide rt
  have HL := hide hl
  have HI := hide (And.intro it (And.intro iS (And.intro iU (And.intro iP iR))))
  clear hr rt hl it iS iU iP iR
  go_enter Try.func3, Try.ntmps3
  go_wp2_with fail
  have hb0 : Below w.heap.size w (w.alloc (.cells (vals d x) 25)) := (Below.refl _ _).alloc (Nat.le_refl _) _
  refine (bytes6_any d x at1 nt ct vf dp _ (unhide HL)).mono ?_
  rintro e w1 ⟨⟨r, rfl⟩, hb1⟩
  have hbox := (box_new w d x).below hb1
  have hB1 := hb0.trans (hb1.mono hb0.size)
  have HB1 := hide hB1
  have BX := hide hbox
  obtain ⟨c0, c1, c2, c3, c4, c5, c6, c7, c8, c9, c10, c11, c12⟩ := hbox.cells
  clear hb0 hb1 hbox hB1 HL
  cases r
  · go_wp2
    go_ret
    exact ⟨rfl, unhide HB1⟩
  go_wp2_with fail
  refine (tooBig_any d x at1 nt ct w1).mono ?_
  rintro e w2 ⟨⟨r, rfl, hr2⟩, hb2⟩
  have hbox := (unhide BX).below hb2
  have hB2 := (unhide HB1).trans (hb2.mono (unhide HB1).size)
  have HB2 := hide hB2
  have HR2 := hide hr2
  clear hb2 hB2 hr2 HB1 BX c0 c1 c2 c3 c4 c5 c6 c7 c8 c9 c10 c11 c12
  have BX := hide hbox
  obtain ⟨c0, c1, c2, c3, c4, c5, c6, c7, c8, c9, c10, c11, c12⟩ := hbox.cells
  cases r
  case true =>
    go_wp2
    go_ret
    exact ⟨rfl, unhide HB2⟩
  obtain ⟨hs, hnt⟩ := unhide HR2 rfl
  have HS := hide hs
  have hnV := hs.sV
  have HBL := hide hbox.lt
  clear hbox hs HR2
  go_wp2_with fail
  refine (cloneSolver_any d x w2 (unhide HS) ((unhide HR).below (unhide HB2))).mono ?_
  rintro e w3 ⟨x', rfl, hown, hb3⟩
  have hbox := (unhide BX).below hb3
  have hB3 := (unhide HB2).trans (hb3.mono (unhide HB2).size)
  have HB3 := hide hB3
  have HO := hide hown
  clear hb3 hB3 hown BX c0 c1 c2 c3 c4 c5 c6 c7 c8 c9 c10 c11 c12
  have BX := hide hbox
  obtain ⟨c0, c1, c2, c3, c4, c5, c6, c7, c8, c9, c10, c11, c12⟩ := hbox.cells
  obtain ⟨z0, z1, z2, z3, z4, z5, z6, z7, z8, z9, z10, z11, z12⟩ := hbox.froz
  clear hbox HR
  simp only [vals]
  go_wp2_with fail
  obtain ⟨W4, hW4⟩ : ∃ W, W = boxed w3 w.heap.size d x' := ⟨_, rfl⟩
  have hbx4 : Box W4 w.heap.size d x' := by rw [hW4]; exact boxed_box (unhide BX)
  have hc4 : Chg (fun k => k = w.heap.size) w3 W4 := by rw [hW4]; exact boxed_chg _ _ _ _
  unfold boxed at hW4
  rw [← hW4]
  clear hW4 c0 c1 c2 c3 c4 c5 c6 c7 c8 c9 c10 c11 c12 z0 z1 z2 z3 z4 z5 z6 z7 z8 z9 z10 z11 z12
  have hown4 : SOwn W4 w2.heap.size d x' := (unhide HO).chg hc4 (fun y hy e => by have h1 := (unhide HO).low y hy; have h2 := unhide HBL; omega)
  have hB4 : Below w.heap.size w W4 := (unhide HB3).trans (hc4.toBelow (unhide HB3).size (fun k e => Nat.le_of_eq e.symm))
  have HFL := hide hown4.lt
  have HB24 := hide (Nat.le_trans (unhide HB2).size (Nat.le_refl _))
  clear BX HO HB3 hc4
  refine (cloneI_any at1 nt ct ft W4 hnt ((unhide HT).below hB4)).mono ?_
  rintro e w5 ⟨at', ct', rfl, ho5, hcap5, hb5, hbl5⟩
  have hbx5 := hbx4.below hb5
  have hown5 := hown4.below hb5
  have hB5 := hB4.trans (hb5.mono hB4.size)
  have HAT := hide hbl5
  have HZ45 := hide hb5.size
  have HO := hide hown5
  have HT5 := hide ho5
  have HB5 := hide hB5
  have BX := hide hbx5
  obtain ⟨c0, c1, c2, c3, c4, c5, c6, c7, c8, c9, c10, c11, c12⟩ := hbx5.cells
  clear hbx4 hown4 hB4 hb5 hbl5 hbx5 hown5 ho5 hB5 HT hcap5
  go_wp2_with fail
  refine (ready_any d x' at' nt ct' ft dp 1 w5 (unhide HS) (unhide HO).rows hnt (unhide HT5).row (unhide HI).1 (unhide HI).2.1 (unhide HI).2.2.1 (unhide HI).2.2.2.1 (unhide HI).2.2.2.2 (by omega) (by omega)).mono ?_
  rintro e w6 ⟨⟨r, rfl, hr6⟩, hb6⟩
  have hbox := (unhide BX).below hb6
  have hB6 := (unhide HB5).trans (hb6.mono (unhide HB5).size)
  have HO6 := hide ((unhide HO).below hb6)
  have HT6 := hide ((unhide HT5).below hb6)
  have HZ56 := hide hb6.size
  have HR6 := hide hr6
  have HB6 := hide hB6
  clear hb6 hr6 hB6 HB5 HO HT5 BX c0 c1 c2 c3 c4 c5 c6 c7 c8 c9 c10 c11 c12
  have BX := hide hbox
  obtain ⟨c0, c1, c2, c3, c4, c5, c6, c7, c8, c9, c10, c11, c12⟩ := hbox.cells
  clear hbox
  cases r
  · go_wp2
    go_ret
    exact ⟨rfl, unhide HB6⟩
  have hok := unhide HR6 rfl
  have HK := hide hok
  clear hok HR6 HI
  have mk := make22 d.nV (by omega)
  have HLE := hide (lenv_of (unhide HK).st (unhide BX) (unhide HO6) vf dp)
  have HLN := hide (lnum_of (unhide HK).st vf dp)
  have HSW := hide (sw_start (vf := vf) (unhide HS) (unhide HK))
  have HLK := hide (lok_of (vf := vf) (unhide HS) (unhide HK))
  have hdS := (unhide HS).sSu
  obtain ⟨g1, hg1⟩ : ∃ g1, g1 = mkG d vf dp := ⟨_, rfl⟩
  rw [← hg1] at HLE HLN HSW HLK
  have HGV : Hid (g1.vf = vf ∧ g1.dp = dp ∧ g1.n = d.nV) := by show _ ∧ _; rw [hg1]; exact ⟨rfl, rfl, rfl⟩
  have HG1 := hide hg1
  clear hg1
  go_wp2
  clear mk c0 c1 c2 c3 c4 c5 c6 c7 c8 c9 c10 c11 c12
  go_loopw [68] (fun i wr => ∃ j : Nat, j ≤ nt ∧ i = .int .i64 j ∧ wr.rowIs w6.heap.size 4 d.nV (fun v => .bool (seenTo ft j v)) ∧ Below w6.heap.size w6 wr ∧ w6.heap.size + 1 ≤ wr.heap.size) (fun i _ => nt - (intOf i).toNat)
  case atStart => exact ⟨0, Nat.zero_le _, rfl, World.rowIs_made w6 (.bool false) d.nV 4, (Below.refl _ _).alloc (Nat.le_refl _) _, by simp⟩
  case round =>
    obtain ⟨j, hj, rfl, hrow, hbr, hsz⟩ := hrel
    by_cases hjl : j < nt
    · as_aux_lemma =>
      obtain ⟨bt, hat, rT⟩ := unhide HT6 (by omega)
      obtain ⟨m, hm⟩ : ∃ m : Nat, ft j = m := ⟨(ft j).toNat, by have := (unhide HK).tg.lo j hjl; omega⟩
      have hmn : m < d.nV := by have := (unhide HK).tg.hi j hjl; omega
      have cT : wr.cell? ⟨bt, j, none⟩ = some (.int .i32 (m : Nat)) := by rw [← hm]; exact laterCell hbr (rT.cell hjl)
      have gs : wr.cell? ⟨w6.heap.size, m, none⟩ = some (.bool (seenTo ft j m)) := hrow.cell hmn
      have gf : wr.frozen? ⟨w6.heap.size, m, none⟩ = false := hrow.frozen m
      have hji : (j : Int) < (nt : Int) := by omega
      have HM := hide hm
      have HRW := hide hrow
      have HBR := hide hbr
      clear hm rT hrow hbr
      subst hat
      go_wp2
      go_roundw
      case rel =>
        refine ⟨j + 1, by omega, by go_num, ((unhide HRW).set m _).congr (fun v hv => ?_), (unhide HBR).setCell (p := ⟨w6.heap.size, m, none⟩) (Nat.le_refl _) _, by simpa using hsz⟩
        by_cases e : v = m
        · subst e
          rw [if_pos rfl]
          simp [seenTo, unhide HM]
        · rw [if_neg e]
          have : ¬ ((m : Int) = (v : Int)) := fun h => e (by omega)
          simp [seenTo, unhide HM, this]
      case measure => simp [intOf]; omega
    · as_aux_lemma =>
      have hje : j = nt := by omega
      subst hje
      have mk := make22 d.nV (by omega)
      have hsrc : Row (wr.alloc (.cells (madeCells #[.bool false] d.nV) 4)) (some ⟨w6.heap.size, 0, none⟩) d.nV (fun v => .bool (seenTo ft j v)) := fun _ => ⟨w6.heap.size, 0, rfl, by simp; omega, fun i hi => by rw [Nat.zero_add]; exact (hrow.alloc _).cell hi⟩
      obtain ⟨W8, hrun, hr8, hch8, hsz8⟩ := copyRun 22 4 3 Try.underlying22 size4 wr.heap.size d.nV (some ⟨w6.heap.size, 0, none⟩) d.nV (fun v => .bool (seenTo ft j v)) _ (fun _ => rfl) _ hsrc (World.rowIs_made wr (.bool false) d.nV 4)
      have hrT8 : W8.rowIs w6.heap.size 4 d.nV (fun v => .bool (seenTo ft j v)) := (hrow.alloc _).of_block (hch8.block _ (by simp; omega) (by omega))
      have hB8 : Below w6.heap.size w6 W8 := (hbr.alloc (by omega) _).trans (hch8.toBelow (by simp; omega) (fun k e => by omega))
      have hz8 : wr.heap.size + 1 ≤ W8.heap.size := by rw [hsz8]; simp
      obtain ⟨bA, hbA⟩ : ∃ bA, bA = wr.heap.size := ⟨_, rfl⟩
      have H8 := hide (And.intro hr8 (And.intro hrT8 (And.intro hB8 hz8)))
      have HBA : Hid (w6.heap.size + 1 ≤ bA ∧ bA < W8.heap.size) := ⟨by omega, by omega⟩
      rw [← hbA] at H8
      clear hsrc hr8 hch8 hsz8 hrT8 hB8 hz8 hjl hj
      go_wp2
      rw [← hbA]
      clear mk hrun hrow hbr hsz hbA
      go_loopw [15] (fun i wr => ∃ (r : Nat) (A : Nat → Bool), i = .int .i64 r ∧ r ≤ size g1 A ∧ Hid (SwOk g1 (toN ft) j (stOf d) A) ∧ wr.rowIs bA 4 d.nV (fun v => .bool (A v)) ∧ Chg (fun k => k = bA) W8 wr) (fun i _ => d.nV + 1 - (intOf i).toNat)
      case atStart => exact ⟨0, seenTo ft j, rfl, Nat.zero_le _, HSW, (unhide H8).1, Chg.refl _ _⟩
      case round =>
        obtain ⟨r, A, rfl, hrs, HSA, hrA, hcA⟩ := hrel
        have hrn : r ≤ d.nV := by have h := size_le g1 A; rw [(unhide HGV).2.2] at h; omega
        have hri : (r : Int) ≤ (d.nV : Int) := by omega
        have HRS := hide hrs
        have HRA := hide (And.intro hrA hcA)
        clear hrs hrA hcA HSW
        go_wp2
        go_loopw [16, 17] (fun ch i wr => ∃ u : Nat, u ≤ d.nV ∧ i = .int .i64 u ∧ ch = .bool (chTo g1 A u) ∧ wr.rowIs bA 4 d.nV (fun v => .bool (swTo g1 A u v)) ∧ Chg (fun k => k = bA) W8 wr) (fun _ i _ => d.nV - (intOf i).toNat)
        case atStart => exact ⟨0, Nat.zero_le _, rfl, rfl, (unhide HRA).1, (unhide HRA).2⟩
        case round =>
          obtain ⟨u, hu, rfl, rfl, hrB, hcB⟩ := hrel
          by_cases hul : u < d.nV
          · as_aux_lemma =>
            obtain ⟨B, hB⟩ : ∃ B, B = swTo g1 A u := ⟨_, rfl⟩
            have HN1 : Hid (swTo g1 A (u + 1) = swU g1 B u) := by show _ = _; rw [hB]; rfl
            have HN2 : Hid (chTo g1 A (u + 1) = if swAdds g1 B u = true then true else chTo g1 A u) := by show _ = _; rw [hB]; rfl
            rw [← hB] at hrB
            obtain ⟨ch, hch⟩ : ∃ ch, ch = chTo g1 A u := ⟨_, rfl⟩
            rw [← hch] at HN2 ⊢
            obtain ⟨bL, bV, bS, cL, cV, cS, aD, cD, env0⟩ := unhide HLE (by omega)
            have hbw : Below w6.heap.size w6 wr := (unhide H8).2.2.1.trans (hcB.toBelow (unhide H8).2.2.1.size (fun k e => by have := (unhide HBA).1; omega))
            have env := env0.below hbw
            have cb : wr.cell? ⟨bA, u, none⟩ = some (.bool (B u)) := hrB.cell hul
            have cf : wr.frozen? ⟨bA, u, none⟩ = false := hrB.frozen u
            have k4 := env.c4
            have lv : wr.cell? ⟨bL, u, none⟩ = some (.int .i32 (g1.lev u)) := env.lev u hul
            have hui : (u : Int) < (d.nV : Int) := by omega
            have HENV := hide env
            have HRB := hide (And.intro hrB hcB)
            clear env env0 hrB hcB hB hch hbw
            cases hBu : B u
            case true =>
              have HA : Hid (swAdds g1 B u = false) := by show _ = _; unfold swAdds; rw [hBu]; rfl
              rw [hBu] at cb
              clear hBu
              go_wp2
              go_roundw
              case rel =>
                refine ⟨u + 1, by omega, by go_num, ?_, ?_, (unhide HRB).2⟩
                · rw [unhide HN2, unhide HA]; rfl
                · rw [unhide HN1, swU_not (unhide HA)]; exact (unhide HRB).1
              case measure => simp [intOf]; omega
            rw [hBu] at cb
            by_cases k1 : g1.lev u < dp
            · have d1 : decide (g1.lev u < dp) = true := by simpa using k1
              have HA : Hid (swAdds g1 B u = false) := by show _ = _; unfold swAdds; rw [hBu, (unhide HGV).2.1, d1]; rfl
              clear hBu k1
              go_wp2
              go_roundw
              case rel =>
                refine ⟨u + 1, by omega, by go_num, ?_, ?_, (unhide HRB).2⟩
                · rw [unhide HN2, unhide HA]; rfl
                · rw [unhide HN1, swU_not (unhide HA)]; exact (unhide HRB).1
              case measure => simp [intOf]; omega
            have d1 : decide (g1.lev u < dp) = false := by simpa using k1
            have HAD : Hid (swAdds g1 B u = takes g1 B u) := by show _ = _; unfold swAdds; rw [hBu, (unhide HGV).2.1, d1]; rfl
            have k2 := (unhide HENV).c2
            have s0' : wr.cell? ⟨bS, u, none⟩ = some (.int .i32 (g1.S u)) := (unhide HENV).st u (by omega)
            have s1' : wr.cell? ⟨bS, u + 1, none⟩ = some (.int .i32 (g1.S (u + 1))) := (unhide HENV).st (u + 1) (by omega)
            have hS0 := (unhide HLN).mS 0 u (by omega) (by omega)
            have hS1 := (unhide HLN).mS u (u + 1) (by omega) (by omega)
            have hS2 := (unhide HLN).mS (u + 1) d.nV (by omega) (Nat.le_refl _)
            have hS3 := (unhide HLN).sD
            clear hBu k1
            go_wp2
            go_loop [18, 19, 20] (fun i1 i2 e => ∃ e0 : Nat, g1.S u ≤ e0 ∧ e0 ≤ g1.S (u + 1) ∧ e = .int .i64 e0 ∧ i1 = .bool (intoTo g1 B u (e0 - g1.S u)) ∧ i2 = .bool (allTo g1 B u (e0 - g1.S u))) (fun _ _ e => g1.S (u + 1) - (intOf e).toNat)
            case atStart => exact ⟨g1.S u, Nat.le_refl _, hS1, rfl, by rw [Nat.sub_self]; rfl, by rw [Nat.sub_self]; rfl⟩
            case round =>
              obtain ⟨e0, he1, he2, rfl, rfl, rfl⟩ := hrel
              by_cases hel : e0 < g1.S (u + 1)
              · obtain ⟨bd, od, had, hbd, hcd⟩ := (unhide HENV).su (by omega)
                obtain ⟨x0, hx0⟩ : ∃ x0, x0 = g1.D e0 := ⟨_, rfl⟩
                have k3 : wr.cell? ⟨w.heap.size, 3, none⟩ = some (.slice (some ⟨bd, od, none⟩) d.nSu cD) := by rw [← had]; exact (unhide HENV).c3
                have cx : wr.cell? ⟨bd, od + e0, none⟩ = some (.int .i32 (x0 : Nat)) := by rw [hx0]; exact hcd e0 (by omega) (by omega)
                have hxn : x0 < d.nV := by rw [hx0]; exact (unhide HLN).vD e0 (by omega) (by omega)
                have cbx : wr.cell? ⟨bA, x0, none⟩ = some (.bool (B x0)) := (unhide HRB).1.cell hxn
                have lx : wr.cell? ⟨bL, x0, none⟩ = some (.int .i32 (g1.lev x0)) := (unhide HENV).lev x0 hxn
                have hei : (e0 : Int) < (g1.S (u + 1) : Int) := by omega
                have hes : (e0 : Int) < (d.nSu : Int) := by omega
                have hsub : e0 + 1 - g1.S u = (e0 - g1.S u) + 1 := by omega
                have hxe : g1.S u + (e0 - g1.S u) = e0 := by omega
                have HI1 : Hid (intoTo g1 B u (e0 + 1 - g1.S u) = if B x0 = true then true else intoTo g1 B u (e0 - g1.S u)) := by
                  show _ = _; rw [hsub]; show (if B (g1.D (g1.S u + (e0 - g1.S u))) = true then true else _) = _; rw [hxe, ← hx0]
                have HI2 : Hid (allTo g1 B u (e0 + 1 - g1.S u) = if B x0 = true then allTo g1 B u (e0 - g1.S u) else if g1.dp ≤ g1.lev x0 then false else allTo g1 B u (e0 - g1.S u)) := by
                  show _ = _; rw [hsub]; show (if B (g1.D (g1.S u + (e0 - g1.S u))) = true then _ else if g1.dp ≤ g1.lev (g1.D (g1.S u + (e0 - g1.S u))) then false else _) = _; rw [hxe, ← hx0]
                clear hcd had hsub hxe hx0
                cases hBx : B x0
                case true =>
                  rw [hBx] at cbx
                  have HX := hide hBx
                  clear hBx
                  go_wp2
                  go_round
                  case rel => exact ⟨e0 + 1, by omega, by omega, by go_num, by rw [unhide HI1, if_pos (unhide HX)], by rw [unhide HI2, if_pos (unhide HX)]⟩
                  case measure => simp [intOf]; omega
                rw [hBx] at cbx
                have HX : Hid (¬ B x0 = true) := by show ¬ _; rw [hBx]; simp
                clear hBx
                by_cases k5 : dp ≤ g1.lev x0
                · have d5 : decide (dp ≤ g1.lev x0) = true := by simpa using k5
                  have K5 : Hid (g1.dp ≤ g1.lev x0) := by show _ ≤ _; rw [(unhide HGV).2.1]; exact k5
                  clear k5
                  go_wp2
                  go_round
                  case rel => exact ⟨e0 + 1, by omega, by omega, by go_num, by rw [unhide HI1, if_neg (unhide HX)], by rw [unhide HI2, if_neg (unhide HX), if_pos (unhide K5)]⟩
                  case measure => simp [intOf]; omega
                · have d5 : decide (dp ≤ g1.lev x0) = false := by simpa using k5
                  have K5 : Hid (¬ g1.dp ≤ g1.lev x0) := by show ¬ _; rw [(unhide HGV).2.1]; exact k5
                  clear k5
                  go_wp2
                  go_round
                  case rel => exact ⟨e0 + 1, by omega, by omega, by go_num, by rw [unhide HI1, if_neg (unhide HX)], by rw [unhide HI2, if_neg (unhide HX), if_neg (unhide K5)]⟩
                  case measure => simp [intOf]; omega
              · have hee : e0 = g1.S (u + 1) := by omega
                subst hee
                obtain ⟨bi, hbi⟩ : ∃ bi, bi = intoTo g1 B u (g1.S (u + 1) - g1.S u) := ⟨_, rfl⟩
                obtain ⟨ba, hba⟩ : ∃ ba, ba = allTo g1 B u (g1.S (u + 1) - g1.S u) := ⟨_, rfl⟩
                have HTK : Hid (takes g1 B u = (bi && (g1.V u == vf || ba))) := by show _ = _; unfold takes slen; rw [hbi, hba, (unhide HGV).1]
                rw [← hbi, ← hba]
                have k0 := (unhide HENV).c0
                have vv : wr.cell? ⟨bV, u, none⟩ = some (.bool (g1.V u)) := (unhide HENV).ver u hul
                clear hbi hba he1 he2 hel
                have hdone : Hid (takes g1 B u = false → chTo g1 A (u + 1) = ch ∧ swTo g1 A (u + 1) = B) := fun h => by
                  rw [unhide HN1, unhide HN2, swU_not ((unhide HAD).trans h), unhide HAD, h]; exact ⟨rfl, rfl⟩
                have htake : Hid (takes g1 B u = true → chTo g1 A (u + 1) = true ∧ swTo g1 A (u + 1) = upd B u true) := fun h => by
                  rw [unhide HN1, unhide HN2, swU_add ((unhide HAD).trans h), unhide HAD, h]; exact ⟨rfl, rfl⟩
                clear HN1 HN2 HAD
                cases bi
                case false =>
                  go_wp2
                  go_roundw
                  case rel =>
                    obtain ⟨q1, q2⟩ := unhide hdone (unhide HTK)
                    exact ⟨u + 1, by omega, by go_num, by rw [q1], by rw [q2]; exact (unhide HRB).1, (unhide HRB).2⟩
                  case measure => simp [intOf]; omega
                by_cases kv : g1.V u = vf
                · have dv : (g1.V u == vf) = true := by rw [beq_iff_eq]; exact kv
                  have HTT : Hid (takes g1 B u = true) := by show _ = _; rw [unhide HTK, dv]; rfl
                  clear kv
                  go_wp2
                  go_roundw
                  case rel =>
                    obtain ⟨q1, q2⟩ := unhide htake (unhide HTT)
                    exact ⟨u + 1, by omega, by go_num, by rw [q1], by rw [q2]; exact upd_rowB (unhide HRB).1, (unhide HRB).2.setCell (p := ⟨bA, u, none⟩) (fun _ => rfl) _⟩
                  case measure => simp [intOf]; omega
                have dv : (g1.V u == vf) = false := by rw [beq_eq_false_iff_ne]; exact kv
                clear kv
                cases ba
                · have HTT : Hid (takes g1 B u = false) := by show _ = _; rw [unhide HTK, dv]; rfl
                  go_wp2
                  go_roundw
                  case rel =>
                    obtain ⟨q1, q2⟩ := unhide hdone (unhide HTT)
                    exact ⟨u + 1, by omega, by go_num, by rw [q1], by rw [q2]; exact (unhide HRB).1, (unhide HRB).2⟩
                  case measure => simp [intOf]; omega
                · have HTT : Hid (takes g1 B u = true) := by show _ = _; rw [unhide HTK, dv]; rfl
                  go_wp2
                  go_roundw
                  case rel =>
                    obtain ⟨q1, q2⟩ := unhide htake (unhide HTT)
                    exact ⟨u + 1, by omega, by go_num, by rw [q1], by rw [q2]; exact upd_rowB (unhide HRB).1, (unhide HRB).2.setCell (p := ⟨bA, u, none⟩) (fun _ => rfl) _⟩
                  case measure => simp [intOf]; omega
          · as_aux_lemma =>
            have hue : u = d.nV := by omega
            subst hue
            have HRB := hide (And.intro hrB hcB)
            obtain ⟨A2, hA2⟩ : ∃ A2, A2 = swTo g1 A d.nV := ⟨_, rfl⟩
            have HSA2 : Hid (SwOk g1 (toN ft) j (stOf d) A2) := by show SwOk _ _ _ _ _; rw [hA2]; exact (unhide HSA).sweep (unhide HLK) d.nV (by rw [(unhide HGV).2.2]; exact Nat.le_refl _)
            have HSZ : Hid (size g1 A + (if chTo g1 A d.nV = true then 1 else 0) ≤ size g1 A2) := by show _ ≤ _; rw [hA2]; exact size_sweep g1 A d.nV (by rw [(unhide HGV).2.2]; exact Nat.le_refl _)
            have HCL : Hid (chTo g1 A d.nV = false → Closed g1 A2) := fun h => by rw [hA2]; rw [← (unhide HGV).2.2] at h ⊢; exact closed_of h
            rw [← hA2] at HRB
            clear hrB hcB hA2 HRA hul hu
            cases hch : chTo g1 A d.nV
            case true =>
              have HC := hide hch
              clear hch
              go_wp2
              go_roundw
              case rel =>
                have h1 := unhide HSZ
                have h2 := unhide HRS
                rw [if_pos (unhide HC)] at h1
                exact ⟨r + 1, A2, by go_num, by omega, HSA2, (unhide HRB).1, (unhide HRB).2⟩
              case measure => simp [intOf]; omega
            have HCLO := hide (unhide HCL hch)
            clear hch HCL HSZ HRS HSA hri hrn
            obtain ⟨w9, rfl⟩ : ∃ w9, w9 = wr := ⟨_, rfl⟩
            have hbw : Below w6.heap.size w6 w9 := (unhide H8).2.2.1.trans ((unhide HRB).2.toBelow (unhide H8).2.2.1.size (fun k e => by have := (unhide HBA).1; omega))
            have HT9 : Hid (w9.rowIs w6.heap.size 4 d.nV (fun v => .bool (seenTo ft j v))) := (unhide H8).2.1.of_block ((unhide HRB).2.block _ (unhide H8).2.1.lt (by have := (unhide HBA).1; omega))
            have HI9 := hide (unhide HRB).1
            have HLAW : Hid (∀ u, u < d.nV → (attS d vf dp ft j).att u = (if A2 u = true then wrap32 (d.at_ + 1) else d.fA u) ∧
                (seenTo ft j u = true ∨ d.fL u < dp ∨ d.fV u = vf ∨ intoTo (mkG d vf dp) A2 u (slen (mkG d vf dp) u) = false → (attS d vf dp ft j).cnt u = d.fC u ∧ (attS d vf dp ft j).rem u = d.fR u) ∧
                (seenTo ft j u = false → ¬ d.fL u < dp → d.fV u ≠ vf → intoTo (mkG d vf dp) A2 u (slen (mkG d vf dp) u) = true → (attS d vf dp ft j).cnt u = wrap32 (d.at_ + 1) ∧ (attS d vf dp ft j).rem u = leftTo (mkG d vf dp) A2 u (slen (mkG d vf dp) u))) := by
              have h1 := unhide HSA2
              have h2 := unhide HCLO
              rw [unhide HG1] at h1 h2
              exact least_all (unhide HS) (unhide HK) h1 h2
            rw [← unhide HG1] at HLAW
            have HGL : Hid (∀ u, g1.lev u = d.fL u ∧ g1.V u = d.fV u) := fun u => by rw [unhide HG1]; exact ⟨rfl, rfl⟩
            obtain ⟨s1, hs1⟩ : ∃ s1, s1 = attS d vf dp ft j := ⟨_, rfl⟩
            obtain ⟨a1, ha1⟩ : ∃ a1, a1 = wrap32 (d.at_ + 1) := ⟨_, rfl⟩
            rw [← hs1, ← ha1] at HLAW
            rw [← ha1]
            have HS1 := hide hs1
            have HA1 := hide ha1
            have HO9 := hide ((unhide HO6).below hbw)
            have HBW := hide hbw
            obtain ⟨c0, c1, c2, c3, c4, c5, c6, c7, c8, c9, c10, c11, c12⟩ := ((unhide BX).below hbw).cells
            clear hs1 ha1 hbw HRB HSA2 HCLO HLK H8
            go_wp2_with fail
            refine (cloneI_any x'.aA d.nA x'.cA d.fA w9 (unhide HS).sA (unhide HO9).oA.row).mono ?_
            rintro e u1 ⟨aWA, cWA, rfl, oWA, kWA, hb1, hl1⟩
            obtain ⟨e0, e1, e2, e3, e4, e5, e6, e7, e8, e9, e10, e11, e12⟩ := ((unhide BX).below ((unhide HBW).trans (hb1.mono (unhide HBW).size))).cells
            have HO10 := hide ((unhide HO9).below hb1)
            have HB1 := hide hb1
            have HL1 := hide hl1
            have HWA := hide oWA
            clear c0 c1 c2 c3 c4 c5 c6 c7 c8 c9 c10 c11 c12 hb1 hl1 oWA kWA
            go_wp2_with fail
            refine (cloneI_any x'.aC d.nC x'.cC d.fC u1 (unhide HS).sC (unhide HO10).oC.row).mono ?_
            rintro e u2 ⟨aWC, cWC, rfl, oWC, kWC, hb2, hl2⟩
            have hb12 := (unhide HB1).trans (hb2.mono (unhide HB1).size)
            obtain ⟨c0, c1, c2, c3, c4, c5, c6, c7, c8, c9, c10, c11, c12⟩ := ((unhide BX).below ((unhide HBW).trans (hb12.mono (unhide HBW).size))).cells
            have HO11 := hide ((unhide HO10).below hb2)
            have HB2' := hide hb12
            have HL2 := hide hl2
            have HZ12 := hide hb2.size
            have HWC := hide oWC
            have HWA2 := hide ((unhide HWA).below hb2)
            clear e0 e1 e2 e3 e4 e5 e6 e7 e8 e9 e10 e11 e12 hb2 hb12 hl2 oWC kWC HWA
            go_wp2_with fail
            refine (cloneI_any x'.aR d.nR x'.cR d.fR u2 (unhide HS).sR (unhide HO11).oR.row).mono ?_
            rintro e u3 ⟨aWR, cWR, rfl, oWR, kWR, hb3, hl3⟩
            have HB3' := hide ((unhide HB2').trans (hb3.mono (unhide HB2').size))
            have HL3 := hide hl3
            have HWR := hide oWR
            have HWC3 := hide ((unhide HWC).below hb3)
            have HWA3 := hide ((unhide HWA2).below hb3)
            have HZ3 : Hid (w9.heap.size ≤ u1.heap.size ∧ u1.heap.size ≤ u2.heap.size ∧ u2.heap.size ≤ u3.heap.size) := ⟨(unhide HB1).size, unhide HZ12, hb3.size⟩
            clear c0 c1 c2 c3 c4 c5 c6 c7 c8 c9 c10 c11 c12 hb3 hl3 oWR kWR HWC HWA2 HO9 HO10 HO11
            go_wp2
            go_loopw [25] (fun i wr => ∃ u : Nat, u ≤ d.nV ∧ i = .int .i64 u ∧ ORow wr 21 aWA d.nA (fun i => .int .i32 (if i < u then s1.att i else d.fA i)) ∧ ORow wr 21 aWC d.nC (fun i => .int .i32 (if i < u then s1.cnt i else d.fC i)) ∧ ORow wr 21 aWR d.nR (fun i => .int .i32 (if i < u then s1.rem i else d.fR i)) ∧ Chg (fun k => w9.heap.size ≤ k) u3 wr) (fun i _ => d.nV - (intOf i).toNat)
            case atStart => exact ⟨0, Nat.zero_le _, rfl, unhide HWA3, unhide HWC3, unhide HWR, Chg.refl _ _⟩
            case round =>
              clear HWA3 HWC3 HWR
              obtain ⟨u, hu, rfl, oA, oC, oR, hcw⟩ := hrel
              by_cases hul : u < d.nV
              · as_aux_lemma =>
                have eA := (unhide HK).st.eA
                have eC := (unhide HK).st.eC
                have eR := (unhide HK).st.eR
                obtain ⟨gWA, haWA, rWA⟩ := oA (by omega)
                obtain ⟨gWC, haWC, rWC⟩ := oC (by omega)
                obtain ⟨gWR, haWR, rWR⟩ := oR (by omega)
                have iA := unhide HL1 _ haWA
                have iC := unhide HL2 _ haWC
                have iR := unhide HL3 _ haWR
                have iz := unhide HZ3
                dsimp only at iA iC iR
                have hAi : (u : Int) < (d.nA : Int) := by omega
                have hCi : (u : Int) < (d.nC : Int) := by omega
                have hRi : (u : Int) < (d.nR : Int) := by omega
                have HNE : Hid (gWA ≠ gWC ∧ gWA ≠ gWR ∧ gWC ≠ gWR ∧ w9.heap.size ≤ gWA ∧ w9.heap.size ≤ gWC ∧ w9.heap.size ≤ gWR) := ⟨by omega, by omega, by omega, by omega, by omega, by omega⟩
                have HEQ : Hid (u < d.nA ∧ u < d.nC ∧ u < d.nR) := ⟨by omega, by omega, by omega⟩
                have hb9w : Below w9.heap.size w9 wr := (unhide HB3').trans (hcw.toBelow (unhide HB3').size (fun k h => h))
                obtain ⟨bL, bV, bS, cL, cV, cS, aD, cD, env0⟩ := unhide HLE (by omega)
                have cI : wr.cell? ⟨bA, u, none⟩ = some (.bool (A2 u)) := laterCell hb9w ((unhide HI9).cell hul)
                have HRA := hide rWA
                have HRC := hide rWC
                have HRR := hide rWR
                have HCW := hide hcw
                have HBw := hide hb9w
                have HENV0 := hide env0
                have hui : (u : Int) < (d.nV : Int) := by omega
                have hS0 := (unhide HLN).mS 0 u (by omega) (by omega)
                have hS1 := (unhide HLN).mS u (u + 1) (by omega) (by omega)
                have hS2 := (unhide HLN).mS (u + 1) d.nV (by omega) (Nat.le_refl _)
                have hS3 := (unhide HLN).sD
                have HLAWu := hide (unhide HLAW u hul)
                have fWA : wr.frozen? ⟨gWA, u, none⟩ = false := rWA.frozen u
                have cWAu : wr.cell? ⟨gWA, u, none⟩ = some (.int .i32 (if u < u then s1.att u else d.fA u)) := rWA.cell (by omega)
                clear eA eC eR iA iC iR iz rWA rWC rWR oA oC oR hcw hb9w env0
                subst haWA
                subst haWC
                subst haWR
                cases hAu : A2 u
                case true =>
                  as_aux_lemma =>
                  rw [hAu] at cI
                  have HRA' : Hid ((wr.setCell ⟨gWA, u, none⟩ (.int .i32 a1)).rowIs gWA 21 d.nA (fun i => .int .i32 (if i < u + 1 then s1.att i else d.fA i))) := by
                    refine World.rowIs.congr ((unhide HRA).set u (.int .i32 a1)) (fun i hi => ?_)
                    have h1 := (unhide HLAWu).1
                    rw [hAu, if_pos rfl] at h1
                    by_cases e : i = u
                    · subst e; rw [if_pos rfl, if_pos (by omega), h1]
                    · rw [if_neg e]
                      by_cases e2 : i < u
                      · rw [if_pos e2, if_pos (by omega)]
                      · rw [if_neg e2, if_neg (by omega)]
                  have HRC' : Hid ((wr.setCell ⟨gWA, u, none⟩ (.int .i32 a1)).rowIs gWC 21 d.nC (fun i => .int .i32 (if i < u then s1.cnt i else d.fC i))) := (unhide HRC).setOther (fun h => (unhide HNE).1 h.symm) _
                  have HRR' : Hid ((wr.setCell ⟨gWA, u, none⟩ (.int .i32 a1)).rowIs gWR 21 d.nR (fun i => .int .i32 (if i < u then s1.rem i else d.fR i))) := (unhide HRR).setOther (fun h => (unhide HNE).2.1 h.symm) _
                  have HCW' : Hid (Chg (fun k => w9.heap.size ≤ k) u3 (wr.setCell ⟨gWA, u, none⟩ (.int .i32 a1))) := (unhide HCW).setCell (p := ⟨gWA, u, none⟩) (fun _ => (unhide HNE).2.2.2.1) _
                  clear hAu HRA HRC HRR HCW HBw
                  have hb9w : Below w9.heap.size w9 (wr.setCell ⟨gWA, u, none⟩ (.int .i32 a1)) := (unhide HB3').trans ((unhide HCW').toBelow (unhide HB3').size (fun k h => h))
                  have HBw := hide hb9w
                  have env := (unhide HENV0).below ((unhide HBW).trans (hb9w.mono (unhide HBW).size))
                  have tT : (wr.setCell ⟨gWA, u, none⟩ (.int .i32 a1)).cell? ⟨w6.heap.size, u, none⟩ = some (.bool (seenTo ft j u)) := laterCell hb9w ((unhide HT9).cell hul)
                  have k4 := env.c4
                  have k0 := env.c0
                  have lv : (wr.setCell ⟨gWA, u, none⟩ (.int .i32 a1)).cell? ⟨bL, u, none⟩ = some (.int .i32 (g1.lev u)) := env.lev u hul
                  have vv : (wr.setCell ⟨gWA, u, none⟩ (.int .i32 a1)).cell? ⟨bV, u, none⟩ = some (.bool (g1.V u)) := env.ver u hul
                  have HENV := hide env
                  have HKEEP : Hid (s1.cnt u = d.fC u ∧ s1.rem u = d.fR u → (wr.setCell ⟨gWA, u, none⟩ (.int .i32 a1)).rowIs gWC 21 d.nC (fun i => .int .i32 (if i < u + 1 then s1.cnt i else d.fC i)) ∧ (wr.setCell ⟨gWA, u, none⟩ (.int .i32 a1)).rowIs gWR 21 d.nR (fun i => .int .i32 (if i < u + 1 then s1.rem i else d.fR i))) := fun h => by
                    refine ⟨World.rowIs.congr (unhide HRC') (fun i hi => ?_), World.rowIs.congr (unhide HRR') (fun i hi => ?_)⟩
                    · by_cases e : i = u
                      · subst e; rw [if_neg (by omega), if_pos (by omega), h.1]
                      · by_cases e2 : i < u
                        · rw [if_pos e2, if_pos (by omega)]
                        · rw [if_neg e2, if_neg (by omega)]
                    · by_cases e : i = u
                      · subst e; rw [if_neg (by omega), if_pos (by omega), h.2]
                      · by_cases e2 : i < u
                        · rw [if_pos e2, if_pos (by omega)]
                        · rw [if_neg e2, if_neg (by omega)]
                  clear hb9w env
                  cases hsee : seenTo ft j u
                  case true =>
                    rw [hsee] at tT
                    have HX := hide ((unhide HLAWu).2.1 (.inl hsee))
                    clear hsee
                    go_wp2
                    go_roundw
                    case rel =>
                      have hk := unhide HKEEP (unhide HX)
                      exact ⟨u + 1, by omega, by go_num, fun _ => ⟨gWA, rfl, unhide HRA'⟩, fun _ => ⟨gWC, rfl, hk.1⟩, fun _ => ⟨gWR, rfl, hk.2⟩, unhide HCW'⟩
                    case measure => simp [intOf]; omega
                  rw [hsee] at tT
                  have HSEE := hide hsee
                  clear hsee
                  by_cases k1 : g1.lev u < dp
                  · have d1 : decide (g1.lev u < dp) = true := by simpa using k1
                    have HX := hide ((unhide HLAWu).2.1 (.inr (.inl (by rw [← (unhide HGL u).1]; exact k1))))
                    clear k1
                    go_wp2
                    go_roundw
                    case rel =>
                      have hk := unhide HKEEP (unhide HX)
                      exact ⟨u + 1, by omega, by go_num, fun _ => ⟨gWA, rfl, unhide HRA'⟩, fun _ => ⟨gWC, rfl, hk.1⟩, fun _ => ⟨gWR, rfl, hk.2⟩, unhide HCW'⟩
                    case measure => simp [intOf]; omega
                  have d1 : decide (g1.lev u < dp) = false := by simpa using k1
                  have HLV : Hid (¬ d.fL u < dp) := by show ¬ _; rw [← (unhide HGL u).1]; exact k1
                  clear k1
                  by_cases kv : g1.V u = vf
                  · have dv : (g1.V u == vf) = true := by rw [beq_iff_eq]; exact kv
                    have HX := hide ((unhide HLAWu).2.1 (.inr (.inr (.inl (by rw [← (unhide HGL u).2]; exact kv)))))
                    clear kv
                    go_wp2
                    go_roundw
                    case rel =>
                      have hk := unhide HKEEP (unhide HX)
                      exact ⟨u + 1, by omega, by go_num, fun _ => ⟨gWA, rfl, unhide HRA'⟩, fun _ => ⟨gWC, rfl, hk.1⟩, fun _ => ⟨gWR, rfl, hk.2⟩, unhide HCW'⟩
                    case measure => simp [intOf]; omega
                  have dv : (g1.V u == vf) = false := by rw [beq_eq_false_iff_ne]; exact kv
                  have HVV : Hid (d.fV u ≠ vf) := by show _ ≠ _; rw [← (unhide HGL u).2]; exact kv
                  clear kv
                  have k2 := (unhide HENV).c2
                  have s0' : (wr.setCell ⟨gWA, u, none⟩ (.int .i32 a1)).cell? ⟨bS, u, none⟩ = some (.int .i32 (g1.S u)) := (unhide HENV).st u (by omega)
                  have s1' : (wr.setCell ⟨gWA, u, none⟩ (.int .i32 a1)).cell? ⟨bS, u + 1, none⟩ = some (.int .i32 (g1.S (u + 1))) := (unhide HENV).st (u + 1) (by omega)
                  go_wp2
                  go_loop [26, 27, 28] (fun i1 i2 e => ∃ e0 : Nat, g1.S u ≤ e0 ∧ e0 ≤ g1.S (u + 1) ∧ e = .int .i64 e0 ∧ i1 = .bool (intoTo g1 A2 u (e0 - g1.S u)) ∧ i2 = .int .i32 (leftTo g1 A2 u (e0 - g1.S u) : Nat)) (fun _ _ e => g1.S (u + 1) - (intOf e).toNat)
                  case atStart => exact ⟨g1.S u, Nat.le_refl _, hS1, rfl, by rw [Nat.sub_self]; rfl, by rw [Nat.sub_self]; rfl⟩
                  case round =>
                    clear cI tT lv vv k0 d1 dv
                    obtain ⟨e0, he1, he2, rfl, rfl, rfl⟩ := hrel
                    by_cases hel : e0 < g1.S (u + 1)
                    · obtain ⟨bd, od, had, hbd, hcd⟩ := (unhide HENV).su (by omega)
                      obtain ⟨x0, hx0⟩ : ∃ x0, x0 = g1.D e0 := ⟨_, rfl⟩
                      have k3 : (wr.setCell ⟨gWA, u, none⟩ (.int .i32 a1)).cell? ⟨w.heap.size, 3, none⟩ = some (.slice (some ⟨bd, od, none⟩) d.nSu cD) := by rw [← had]; exact (unhide HENV).c3
                      have cx : (wr.setCell ⟨gWA, u, none⟩ (.int .i32 a1)).cell? ⟨bd, od + e0, none⟩ = some (.int .i32 (x0 : Nat)) := by rw [hx0]; exact hcd e0 (by omega) (by omega)
                      have hxn : x0 < d.nV := by rw [hx0]; exact (unhide HLN).vD e0 (by omega) (by omega)
                      have cbx : (wr.setCell ⟨gWA, u, none⟩ (.int .i32 a1)).cell? ⟨bA, x0, none⟩ = some (.bool (A2 x0)) := laterCell (unhide HBw) ((unhide HI9).cell hxn)
                      have lx : (wr.setCell ⟨gWA, u, none⟩ (.int .i32 a1)).cell? ⟨bL, x0, none⟩ = some (.int .i32 (g1.lev x0)) := (unhide HENV).lev x0 hxn
                      have hei : (e0 : Int) < (g1.S (u + 1) : Int) := by omega
                      have hes : (e0 : Int) < (d.nSu : Int) := by omega
                      have hsub : e0 + 1 - g1.S u = (e0 - g1.S u) + 1 := by omega
                      have hxe : g1.S u + (e0 - g1.S u) = e0 := by omega
                      have hle := leftTo_le g1 A2 u (e0 - g1.S u)
                      have HI1 : Hid (intoTo g1 A2 u (e0 + 1 - g1.S u) = if A2 x0 = true then true else intoTo g1 A2 u (e0 - g1.S u)) := by
                        show _ = _; rw [hsub]; show (if A2 (g1.D (g1.S u + (e0 - g1.S u))) = true then true else _) = _; rw [hxe, ← hx0]
                      have HI2 : Hid (leftTo g1 A2 u (e0 + 1 - g1.S u) = if A2 x0 = true then leftTo g1 A2 u (e0 - g1.S u) else if g1.dp ≤ g1.lev x0 then leftTo g1 A2 u (e0 - g1.S u) + 1 else leftTo g1 A2 u (e0 - g1.S u)) := by
                        show _ = _; rw [hsub]; show (if A2 (g1.D (g1.S u + (e0 - g1.S u))) = true then _ else if g1.dp ≤ g1.lev (g1.D (g1.S u + (e0 - g1.S u))) then _ else _) = _; rw [hxe, ← hx0]
                      clear hcd had hsub hxe hx0
                      cases hBx : A2 x0
                      case true =>
                        rw [hBx] at cbx
                        have HX := hide hBx
                        clear hBx
                        go_wp2
                        go_round
                        case rel => exact ⟨e0 + 1, by omega, by omega, by go_num, by rw [unhide HI1, if_pos (unhide HX)], by rw [unhide HI2, if_pos (unhide HX)]⟩
                        case measure => simp [intOf]; omega
                      rw [hBx] at cbx
                      have HX : Hid (¬ A2 x0 = true) := by show ¬ _; rw [hBx]; simp
                      clear hBx
                      by_cases k5 : dp ≤ g1.lev x0
                      · have d5 : decide (dp ≤ g1.lev x0) = true := by simpa using k5
                        have K5 : Hid (g1.dp ≤ g1.lev x0) := by show _ ≤ _; rw [(unhide HGV).2.1]; exact k5
                        clear k5
                        go_wp2
                        go_round
                        case rel => exact ⟨e0 + 1, by omega, by omega, by go_num, by rw [unhide HI1, if_neg (unhide HX)], by rw [unhide HI2, if_neg (unhide HX), if_pos (unhide K5)]; first | rfl | go_num | (rw [wrap32_small (by omega) (by omega)]; simp)⟩
                        case measure => simp [intOf]; omega
                      · have d5 : decide (dp ≤ g1.lev x0) = false := by simpa using k5
                        have K5 : Hid (¬ g1.dp ≤ g1.lev x0) := by show ¬ _; rw [(unhide HGV).2.1]; exact k5
                        clear k5
                        go_wp2
                        go_round
                        case rel => exact ⟨e0 + 1, by omega, by omega, by go_num, by rw [unhide HI1, if_neg (unhide HX)], by rw [unhide HI2, if_neg (unhide HX), if_neg (unhide K5)]⟩
                        case measure => simp [intOf]; omega
                    · have hee : e0 = g1.S (u + 1) := by omega
                      subst hee
                      obtain ⟨lf, hlf⟩ : ∃ lf, lf = leftTo g1 A2 u (g1.S (u + 1) - g1.S u) := ⟨_, rfl⟩
                      have cC : (wr.setCell ⟨gWA, u, none⟩ (.int .i32 a1)).cell? ⟨gWC, u, none⟩ = some (.int .i32 (if u < u then s1.cnt u else d.fC u)) := (unhide HRC').cell (unhide HEQ).2.1
                      have fC : (wr.setCell ⟨gWA, u, none⟩ (.int .i32 a1)).frozen? ⟨gWC, u, none⟩ = false := (unhide HRC').frozen u
                      have cR : ((wr.setCell ⟨gWA, u, none⟩ (.int .i32 a1)).setCell ⟨gWC, u, none⟩ (.int .i32 a1)).cell? ⟨gWR, u, none⟩ = some (.int .i32 (if u < u then s1.rem u else d.fR u)) := ((unhide HRR').setOther (fun h => (unhide HNE).2.2.1 h.symm) _).cell (unhide HEQ).2.2
                      have fR : ((wr.setCell ⟨gWA, u, none⟩ (.int .i32 a1)).setCell ⟨gWC, u, none⟩ (.int .i32 a1)).frozen? ⟨gWR, u, none⟩ = false := ((unhide HRR').setOther (fun h => (unhide HNE).2.2.1 h.symm) _).frozen u
                      rw [← hlf]
                      have HLF := hide hlf
                      clear hlf he1 he2 hel
                      cases hin : intoTo g1 A2 u (g1.S (u + 1) - g1.S u)
                      case true =>
                        have HX := hide ((unhide HLAWu).2.2 (unhide HSEE) (unhide HLV) (unhide HVV) hin)
                        clear hin
                        go_wp2
                        go_roundw
                        case rel =>
                          obtain ⟨x1, x2⟩ := unhide HX
                          have x2' : s1.rem u = (lf : Nat) := by rw [x2, unhide HLF]; rfl
                          have hne := unhide HNE
                          refine ⟨u + 1, by omega, by go_num, fun _ => ⟨gWA, rfl, ((unhide HRA').setOther (fun h => hne.1 h) _).setOther (fun h => hne.2.1 h) _⟩, fun _ => ⟨gWC, rfl, World.rowIs.congr (((unhide HRC').set u (.int .i32 a1)).setOther (fun h => hne.2.2.1 h) _) (fun i hi => ?_)⟩, fun _ => ⟨gWR, rfl, World.rowIs.congr (((unhide HRR').setOther (fun h => hne.2.2.1 h.symm) _).set u (.int .i32 (lf : Nat))) (fun i hi => ?_)⟩, ((unhide HCW').setCell (p := ⟨gWC, u, none⟩) (fun _ => hne.2.2.2.2.1) _).setCell (p := ⟨gWR, u, none⟩) (fun _ => hne.2.2.2.2.2) _⟩
                          · by_cases e : i = u
                            · subst e; rw [if_pos rfl, if_pos (by omega), x1]
                            · rw [if_neg e]
                              by_cases e2 : i < u
                              · rw [if_pos e2, if_pos (by omega)]
                              · rw [if_neg e2, if_neg (by omega)]
                          · by_cases e : i = u
                            · subst e; rw [if_pos rfl, if_pos (by omega), x2']
                            · rw [if_neg e]
                              by_cases e2 : i < u
                              · rw [if_pos e2, if_pos (by omega)]
                              · rw [if_neg e2, if_neg (by omega)]
                        case measure => simp [intOf]; omega
                      case false =>
                        have HX := hide ((unhide HLAWu).2.1 (.inr (.inr (.inr hin))))
                        clear hin
                        go_wp2
                        go_roundw
                        case rel =>
                          have hk := unhide HKEEP (unhide HX)
                          exact ⟨u + 1, by omega, by go_num, fun _ => ⟨gWA, rfl, unhide HRA'⟩, fun _ => ⟨gWC, rfl, hk.1⟩, fun _ => ⟨gWR, rfl, hk.2⟩, unhide HCW'⟩
                        case measure => simp [intOf]; omega
                case false =>
                  as_aux_lemma =>
                  rw [hAu] at cI
                  have HRA' : Hid (wr.rowIs gWA 21 d.nA (fun i => .int .i32 (if i < u + 1 then s1.att i else d.fA i))) := by
                    refine World.rowIs.congr (unhide HRA) (fun i hi => ?_)
                    have h1 := (unhide HLAWu).1
                    rw [hAu, if_neg (by simp)] at h1
                    by_cases e : i = u
                    · subst e; rw [if_neg (by omega), if_pos (by omega), h1]
                    · by_cases e2 : i < u
                      · rw [if_pos e2, if_pos (by omega)]
                      · rw [if_neg e2, if_neg (by omega)]
                  have HRC' := HRC
                  have HRR' := HRR
                  have HCW' := HCW
                  clear hAu HRA HRC HRR HCW HBw fWA cWAu
                  have hb9w : Below w9.heap.size w9 wr := (unhide HB3').trans ((unhide HCW').toBelow (unhide HB3').size (fun k h => h))
                  have HBw := hide hb9w
                  have env := (unhide HENV0).below ((unhide HBW).trans (hb9w.mono (unhide HBW).size))
                  have tT : wr.cell? ⟨w6.heap.size, u, none⟩ = some (.bool (seenTo ft j u)) := laterCell hb9w ((unhide HT9).cell hul)
                  have k4 := env.c4
                  have k0 := env.c0
                  have lv : wr.cell? ⟨bL, u, none⟩ = some (.int .i32 (g1.lev u)) := env.lev u hul
                  have vv : wr.cell? ⟨bV, u, none⟩ = some (.bool (g1.V u)) := env.ver u hul
                  have HENV := hide env
                  have HKEEP : Hid (s1.cnt u = d.fC u ∧ s1.rem u = d.fR u → wr.rowIs gWC 21 d.nC (fun i => .int .i32 (if i < u + 1 then s1.cnt i else d.fC i)) ∧ wr.rowIs gWR 21 d.nR (fun i => .int .i32 (if i < u + 1 then s1.rem i else d.fR i))) := fun h => by
                    refine ⟨World.rowIs.congr (unhide HRC') (fun i hi => ?_), World.rowIs.congr (unhide HRR') (fun i hi => ?_)⟩
                    · by_cases e : i = u
                      · subst e; rw [if_neg (by omega), if_pos (by omega), h.1]
                      · by_cases e2 : i < u
                        · rw [if_pos e2, if_pos (by omega)]
                        · rw [if_neg e2, if_neg (by omega)]
                    · by_cases e : i = u
                      · subst e; rw [if_neg (by omega), if_pos (by omega), h.2]
                      · by_cases e2 : i < u
                        · rw [if_pos e2, if_pos (by omega)]
                        · rw [if_neg e2, if_neg (by omega)]
                  clear hb9w env
                  cases hsee : seenTo ft j u
                  case true =>
                    rw [hsee] at tT
                    have HX := hide ((unhide HLAWu).2.1 (.inl hsee))
                    clear hsee
                    go_wp2
                    go_roundw
                    case rel =>
                      have hk := unhide HKEEP (unhide HX)
                      exact ⟨u + 1, by omega, by go_num, fun _ => ⟨gWA, rfl, unhide HRA'⟩, fun _ => ⟨gWC, rfl, hk.1⟩, fun _ => ⟨gWR, rfl, hk.2⟩, unhide HCW'⟩
                    case measure => simp [intOf]; omega
                  rw [hsee] at tT
                  have HSEE := hide hsee
                  clear hsee
                  by_cases k1 : g1.lev u < dp
                  · have d1 : decide (g1.lev u < dp) = true := by simpa using k1
                    have HX := hide ((unhide HLAWu).2.1 (.inr (.inl (by rw [← (unhide HGL u).1]; exact k1))))
                    clear k1
                    go_wp2
                    go_roundw
                    case rel =>
                      have hk := unhide HKEEP (unhide HX)
                      exact ⟨u + 1, by omega, by go_num, fun _ => ⟨gWA, rfl, unhide HRA'⟩, fun _ => ⟨gWC, rfl, hk.1⟩, fun _ => ⟨gWR, rfl, hk.2⟩, unhide HCW'⟩
                    case measure => simp [intOf]; omega
                  have d1 : decide (g1.lev u < dp) = false := by simpa using k1
                  have HLV : Hid (¬ d.fL u < dp) := by show ¬ _; rw [← (unhide HGL u).1]; exact k1
                  clear k1
                  by_cases kv : g1.V u = vf
                  · have dv : (g1.V u == vf) = true := by rw [beq_iff_eq]; exact kv
                    have HX := hide ((unhide HLAWu).2.1 (.inr (.inr (.inl (by rw [← (unhide HGL u).2]; exact kv)))))
                    clear kv
                    go_wp2
                    go_roundw
                    case rel =>
                      have hk := unhide HKEEP (unhide HX)
                      exact ⟨u + 1, by omega, by go_num, fun _ => ⟨gWA, rfl, unhide HRA'⟩, fun _ => ⟨gWC, rfl, hk.1⟩, fun _ => ⟨gWR, rfl, hk.2⟩, unhide HCW'⟩
                    case measure => simp [intOf]; omega
                  have dv : (g1.V u == vf) = false := by rw [beq_eq_false_iff_ne]; exact kv
                  have HVV : Hid (d.fV u ≠ vf) := by show _ ≠ _; rw [← (unhide HGL u).2]; exact kv
                  clear kv
                  have k2 := (unhide HENV).c2
                  have s0' : wr.cell? ⟨bS, u, none⟩ = some (.int .i32 (g1.S u)) := (unhide HENV).st u (by omega)
                  have s1' : wr.cell? ⟨bS, u + 1, none⟩ = some (.int .i32 (g1.S (u + 1))) := (unhide HENV).st (u + 1) (by omega)
                  go_wp2
                  go_loop [26, 27, 28] (fun i1 i2 e => ∃ e0 : Nat, g1.S u ≤ e0 ∧ e0 ≤ g1.S (u + 1) ∧ e = .int .i64 e0 ∧ i1 = .bool (intoTo g1 A2 u (e0 - g1.S u)) ∧ i2 = .int .i32 (leftTo g1 A2 u (e0 - g1.S u) : Nat)) (fun _ _ e => g1.S (u + 1) - (intOf e).toNat)
                  case atStart => exact ⟨g1.S u, Nat.le_refl _, hS1, rfl, by rw [Nat.sub_self]; rfl, by rw [Nat.sub_self]; rfl⟩
                  case round =>
                    clear cI tT lv vv k0 d1 dv
                    obtain ⟨e0, he1, he2, rfl, rfl, rfl⟩ := hrel
                    by_cases hel : e0 < g1.S (u + 1)
                    · obtain ⟨bd, od, had, hbd, hcd⟩ := (unhide HENV).su (by omega)
                      obtain ⟨x0, hx0⟩ : ∃ x0, x0 = g1.D e0 := ⟨_, rfl⟩
                      have k3 : wr.cell? ⟨w.heap.size, 3, none⟩ = some (.slice (some ⟨bd, od, none⟩) d.nSu cD) := by rw [← had]; exact (unhide HENV).c3
                      have cx : wr.cell? ⟨bd, od + e0, none⟩ = some (.int .i32 (x0 : Nat)) := by rw [hx0]; exact hcd e0 (by omega) (by omega)
                      have hxn : x0 < d.nV := by rw [hx0]; exact (unhide HLN).vD e0 (by omega) (by omega)
                      have cbx : wr.cell? ⟨bA, x0, none⟩ = some (.bool (A2 x0)) := laterCell (unhide HBw) ((unhide HI9).cell hxn)
                      have lx : wr.cell? ⟨bL, x0, none⟩ = some (.int .i32 (g1.lev x0)) := (unhide HENV).lev x0 hxn
                      have hei : (e0 : Int) < (g1.S (u + 1) : Int) := by omega
                      have hes : (e0 : Int) < (d.nSu : Int) := by omega
                      have hsub : e0 + 1 - g1.S u = (e0 - g1.S u) + 1 := by omega
                      have hxe : g1.S u + (e0 - g1.S u) = e0 := by omega
                      have hle := leftTo_le g1 A2 u (e0 - g1.S u)
                      have HI1 : Hid (intoTo g1 A2 u (e0 + 1 - g1.S u) = if A2 x0 = true then true else intoTo g1 A2 u (e0 - g1.S u)) := by
                        show _ = _; rw [hsub]; show (if A2 (g1.D (g1.S u + (e0 - g1.S u))) = true then true else _) = _; rw [hxe, ← hx0]
                      have HI2 : Hid (leftTo g1 A2 u (e0 + 1 - g1.S u) = if A2 x0 = true then leftTo g1 A2 u (e0 - g1.S u) else if g1.dp ≤ g1.lev x0 then leftTo g1 A2 u (e0 - g1.S u) + 1 else leftTo g1 A2 u (e0 - g1.S u)) := by
                        show _ = _; rw [hsub]; show (if A2 (g1.D (g1.S u + (e0 - g1.S u))) = true then _ else if g1.dp ≤ g1.lev (g1.D (g1.S u + (e0 - g1.S u))) then _ else _) = _; rw [hxe, ← hx0]
                      clear hcd had hsub hxe hx0
                      cases hBx : A2 x0
                      case true =>
                        rw [hBx] at cbx
                        have HX := hide hBx
                        clear hBx
                        go_wp2
                        go_round
                        case rel => exact ⟨e0 + 1, by omega, by omega, by go_num, by rw [unhide HI1, if_pos (unhide HX)], by rw [unhide HI2, if_pos (unhide HX)]⟩
                        case measure => simp [intOf]; omega
                      rw [hBx] at cbx
                      have HX : Hid (¬ A2 x0 = true) := by show ¬ _; rw [hBx]; simp
                      clear hBx
                      by_cases k5 : dp ≤ g1.lev x0
                      · have d5 : decide (dp ≤ g1.lev x0) = true := by simpa using k5
                        have K5 : Hid (g1.dp ≤ g1.lev x0) := by show _ ≤ _; rw [(unhide HGV).2.1]; exact k5
                        clear k5
                        go_wp2
                        go_round
                        case rel => exact ⟨e0 + 1, by omega, by omega, by go_num, by rw [unhide HI1, if_neg (unhide HX)], by rw [unhide HI2, if_neg (unhide HX), if_pos (unhide K5)]; first | rfl | go_num | (rw [wrap32_small (by omega) (by omega)]; simp)⟩
                        case measure => simp [intOf]; omega
                      · have d5 : decide (dp ≤ g1.lev x0) = false := by simpa using k5
                        have K5 : Hid (¬ g1.dp ≤ g1.lev x0) := by show ¬ _; rw [(unhide HGV).2.1]; exact k5
                        clear k5
                        go_wp2
                        go_round
                        case rel => exact ⟨e0 + 1, by omega, by omega, by go_num, by rw [unhide HI1, if_neg (unhide HX)], by rw [unhide HI2, if_neg (unhide HX), if_neg (unhide K5)]⟩
                        case measure => simp [intOf]; omega
                    · have hee : e0 = g1.S (u + 1) := by omega
                      subst hee
                      obtain ⟨lf, hlf⟩ : ∃ lf, lf = leftTo g1 A2 u (g1.S (u + 1) - g1.S u) := ⟨_, rfl⟩
                      have cC : wr.cell? ⟨gWC, u, none⟩ = some (.int .i32 (if u < u then s1.cnt u else d.fC u)) := (unhide HRC').cell (unhide HEQ).2.1
                      have fC : wr.frozen? ⟨gWC, u, none⟩ = false := (unhide HRC').frozen u
                      have cR : (wr.setCell ⟨gWC, u, none⟩ (.int .i32 a1)).cell? ⟨gWR, u, none⟩ = some (.int .i32 (if u < u then s1.rem u else d.fR u)) := ((unhide HRR').setOther (fun h => (unhide HNE).2.2.1 h.symm) _).cell (unhide HEQ).2.2
                      have fR : (wr.setCell ⟨gWC, u, none⟩ (.int .i32 a1)).frozen? ⟨gWR, u, none⟩ = false := ((unhide HRR').setOther (fun h => (unhide HNE).2.2.1 h.symm) _).frozen u
                      rw [← hlf]
                      have HLF := hide hlf
                      clear hlf he1 he2 hel
                      cases hin : intoTo g1 A2 u (g1.S (u + 1) - g1.S u)
                      case true =>
                        have HX := hide ((unhide HLAWu).2.2 (unhide HSEE) (unhide HLV) (unhide HVV) hin)
                        clear hin
                        go_wp2
                        go_roundw
                        case rel =>
                          obtain ⟨x1, x2⟩ := unhide HX
                          have x2' : s1.rem u = (lf : Nat) := by rw [x2, unhide HLF]; rfl
                          have hne := unhide HNE
                          refine ⟨u + 1, by omega, by go_num, fun _ => ⟨gWA, rfl, ((unhide HRA').setOther (fun h => hne.1 h) _).setOther (fun h => hne.2.1 h) _⟩, fun _ => ⟨gWC, rfl, World.rowIs.congr (((unhide HRC').set u (.int .i32 a1)).setOther (fun h => hne.2.2.1 h) _) (fun i hi => ?_)⟩, fun _ => ⟨gWR, rfl, World.rowIs.congr (((unhide HRR').setOther (fun h => hne.2.2.1 h.symm) _).set u (.int .i32 (lf : Nat))) (fun i hi => ?_)⟩, ((unhide HCW').setCell (p := ⟨gWC, u, none⟩) (fun _ => hne.2.2.2.2.1) _).setCell (p := ⟨gWR, u, none⟩) (fun _ => hne.2.2.2.2.2) _⟩
                          · by_cases e : i = u
                            · subst e; rw [if_pos rfl, if_pos (by omega), x1]
                            · rw [if_neg e]
                              by_cases e2 : i < u
                              · rw [if_pos e2, if_pos (by omega)]
                              · rw [if_neg e2, if_neg (by omega)]
                          · by_cases e : i = u
                            · subst e; rw [if_pos rfl, if_pos (by omega), x2']
                            · rw [if_neg e]
                              by_cases e2 : i < u
                              · rw [if_pos e2, if_pos (by omega)]
                              · rw [if_neg e2, if_neg (by omega)]
                        case measure => simp [intOf]; omega
                      case false =>
                        have HX := hide ((unhide HLAWu).2.1 (.inr (.inr (.inr hin))))
                        clear hin
                        go_wp2
                        go_roundw
                        case rel =>
                          have hk := unhide HKEEP (unhide HX)
                          exact ⟨u + 1, by omega, by go_num, fun _ => ⟨gWA, rfl, unhide HRA'⟩, fun _ => ⟨gWC, rfl, hk.1⟩, fun _ => ⟨gWR, rfl, hk.2⟩, unhide HCW'⟩
                        case measure => simp [intOf]; omega
              · as_aux_lemma =>
                have hue : u = d.nV := by omega
                subst hue
                clear HLE HLN HGL HLAW HGV HI9 HT9
                have hbX : Below w9.heap.size w9 wr := (unhide HB3').trans (hcw.toBelow (unhide HB3').size (fun k h => h))
                have hbw : Below w6.heap.size w6 wr := (unhide HBW).trans (hbX.mono (unhide HBW).size)
                have HWA := hide oA
                have HWC := hide oC
                have HWR := hide oR
                obtain ⟨w13, rfl⟩ : ∃ w13, w13 = wr := ⟨_, rfl⟩
                have HW13 : Hid (∀ y : Addr, (some y = aWA ∨ some y = aWC ∨ some y = aWR) → w9.heap.size ≤ y.block ∧ y.block < w13.heap.size) := fun y hy => by
                  have iz := unhide HZ3
                  have h0 := hcw.size
                  rcases hy with e | e | e
                  · have := unhide HL1 y e.symm; omega
                  · have := unhide HL2 y e.symm; omega
                  · have := unhide HL3 y e.symm; omega
                have hbx13 := (unhide BX).below hbw
                have HO13 := hide ((unhide HO6).below hbw)
                have HT13 := hide ((unhide HT6).below hbw)
                have HB13 := hide ((unhide HB6).trans (hbw.mono (unhide HB6).size))
                have HZ13 := hide hbw.size
                have HZ9 := hide (unhide HBW).size
                have BX13 := hide hbx13
                obtain ⟨c0, c1, c2, c3, c4, c5, c6, c7, c8, c9, c10, c11, c12⟩ := hbx13.cells
                clear oA oC oR hbX hbw hbx13 hcw HBW HB3' HZ3 HL1 HL2 HL3 BX HT6 HB6 hu hul
                go_wp2_with fail
                refine (cloneSolver_any d x' w13 (unhide HS) (unhide HO13).rows).mono ?_
                rintro e w14 ⟨x2, rfl, hown2, hb14⟩
                simp only [vals]
                have HOX := hide hown2
                have HB14 := hide hb14
                obtain ⟨e0, e1, e2, e3, e4, e5, e6, e7, e8, e9, e10, e11, e12⟩ := ((unhide BX13).below hb14).cells
                clear c0 c1 c2 c3 c4 c5 c6 c7 c8 c9 c10 c11 c12 hown2 hb14
                go_wp2_with fail
                have hb15 : Below w14.heap.size w14 (w14.alloc (.cells (vals d x2) 25)) := (Below.refl _ _).alloc (Nat.le_refl _) _
                obtain ⟨W15, hW15⟩ : ∃ W, W = w14.alloc (.cells (vals d x2) 25) := ⟨_, rfl⟩
                rw [← hW15] at hb15
                have hbo : Box W15 w14.heap.size d x2 := by rw [hW15]; exact box_new _ _ _
                have hz15 : W15.heap.size = w14.heap.size + 1 := by rw [hW15]; simp
                simp only [vals] at hW15
                rw [← hW15]
                clear hW15 e0 e1 e2 e3 e4 e5 e6 e7 e8 e9 e10 e11 e12
                have hb13 : Below w13.heap.size w13 W15 := (unhide HB14).trans (hb15.mono (unhide HB14).size)
                refine (cloneI_any at' j ct' ft W15 hnt ((unhide HT13).below hb13).row).mono ?_
                rintro e w16 ⟨atO, ctO, rfl, oTO, kTO, hb16, hl16⟩
                have hb1316 : Below w13.heap.size w13 w16 := hb13.trans (hb16.mono hb13.size)
                have HO16 := hide ((unhide HO13).below hb1316)
                have HOX16 := hide (((unhide HOX).below hb15).below hb16)
                have BO16 := hide (hbo.below hb16)
                have BX16 := hide ((unhide BX13).below hb1316)
                have HT16 := hide ((unhide HT13).below hb1316)
                have HTO16 := hide oTO
                have HWA16 := hide ((unhide HWA).below hb1316)
                have HWC16 := hide ((unhide HWC).below hb1316)
                have HWR16 := hide ((unhide HWR).below hb1316)
                have HB16 := hide ((unhide HB13).trans (hb1316.mono (unhide HB13).size))
                have HLO := hide hl16
                have HSZ : Hid (w13.heap.size ≤ w14.heap.size ∧ W15.heap.size = w14.heap.size + 1 ∧ W15.heap.size ≤ w16.heap.size ∧ W4.heap.size ≤ w9.heap.size ∧ W4.heap.size ≤ w13.heap.size ∧ w.heap.size < w2.heap.size) := ⟨(unhide HB14).size, hz15, hb16.size, by
                  have h1 := unhide HZ45
                  have h2 := unhide HZ56
                  have h3 := unhide HZ9
                  omega, by
                  have h1 := unhide HZ45
                  have h2 := unhide HZ56
                  have h3 := unhide HZ13
                  omega, unhide HBL⟩
                have HZ5 : Hid (w5.heap.size ≤ w16.heap.size) := by
                  have h1 := unhide HZ56
                  have h2 := unhide HZ13
                  have h3 := hb1316.size
                  show _ ≤ _
                  omega
                obtain ⟨c0, c1, c2, c3, c4, c5, c6, c7, c8, c9, c10, c11, c12⟩ := (unhide BX16).cells
                clear hb15 hbo hz15 hb13 hb16 hb1316 hl16 oTO kTO HOX HO13 HB14 HT13 HWA HWC HWR HB13 BX13 HZ45 HZ56 HZ9 HZ13 HBL
                go_wp2_with fail
                refine (newSolver_any d x' w2.heap.size w16 (unhide HO16)).mono ?_
                rintro e w17 ⟨rfl, hm17, hb17, hz17⟩
                obtain ⟨sb, hsb⟩ : ∃ sb, sb = w16.heap.size + 1 := ⟨_, rfl⟩
                rw [← hsb] at hm17 ⊢
                have hout : ∀ k, (W4.heap.size ≤ k ∨ k < w2.heap.size) → k < w16.heap.size → ¬ wr4 x' sb k := fun k h1 h2 h => by
                  have h3 := (unhide HO16).low
                  have h4 := unhide HFL
                  rcases h with ⟨z, e2, f⟩ | ⟨z, e2, f⟩ | ⟨z, e2, f⟩ | f
                  · have a1 := h3 z (.inr (.inr (.inr (.inr (.inr (.inr (.inl e2)))))))
                    have a2 := h4 z (.inr (.inr (.inr (.inr (.inr (.inr (.inl e2)))))))
                    omega
                  · have a1 := h3 z (.inr (.inr (.inr (.inr (.inr (.inr (.inr (.inl e2))))))))
                    have a2 := h4 z (.inr (.inr (.inr (.inr (.inr (.inr (.inr (.inl e2))))))))
                    omega
                  · have a1 := h3 z (.inr (.inr (.inr (.inr (.inr (.inr (.inr (.inr (.inl e2)))))))))
                    have a2 := h4 z (.inr (.inr (.inr (.inr (.inr (.inr (.inr (.inr (.inl e2)))))))))
                    omega
                  · omega
                have hlow : ∀ k, wr4 x' sb k → w.heap.size ≤ k := fun k h => by
                  have h1 := (unhide HO16).low
                  have h2 := unhide HSZ
                  have h3 := (unhide HB16).size
                  rcases h with ⟨z, e2, f⟩ | ⟨z, e2, f⟩ | ⟨z, e2, f⟩ | f
                  · have := h1 z (.inr (.inr (.inr (.inr (.inr (.inr (.inl e2))))))); omega
                  · have := h1 z (.inr (.inr (.inr (.inr (.inr (.inr (.inr (.inl e2)))))))); omega
                  · have := h1 z (.inr (.inr (.inr (.inr (.inr (.inr (.inr (.inr (.inl e2))))))))); omega
                  · omega
                have hsz := unhide HSZ
                have oT : ∀ y, at' = some y → ¬ wr4 x' sb y.block := fun y e => by
                  have h1 := unhide HAT y e
                  have h2 := unhide HZ5
                  exact hout _ (.inl h1.1) (by omega)
                have HOUT := hide hout
                have HLOW := hide hlow
                have HTT := hide oT
                have HM17 := hide hm17
                have HB17 := hide hb17
                clear hm17 hb17 hz17 hsb hout hlow oT hsz c0 c1 c2 c3 c4 c5 c6 c7 c8 c9 c10 c11 c12
                have htg := (unhide HK).tg
                have HATT := hide (zzAttract_any d x' w2.heap.size sb w16.heap.size at' j ct' ft vf dp w17 (unhide HS) (unhide HK).st (unhide HM17) hnt ((unhide HT16).below (unhide HB17)).row (fun i hi => ⟨htg.lo i hi, htg.hi i hi⟩) (unhide HTT))
                clear htg
                go_wp2_with fail
                refine (unhide HATT).mono ?_
                rintro e w18 ⟨he, hm18, hc18⟩
                rw [← unhide HA1] at he
                subst he
                have HM18 := hide hm18
                have HC18 := hide hc18
                clear hm18 hc18 HATT
                go_wp2_with fail
                refine (solverState_any (aft d vf dp ft j) x' w2.heap.size sb w16.heap.size w18 (unhide HM18)).mono ?_
                rintro e w19 ⟨hso, hb19⟩
                have hso' : e = .returned (.tuple #[.slice x'.aL d.nL x'.cL, .slice x'.aW d.nW x'.cW, .slice x'.aA d.nA x'.cA, .slice x'.aC d.nC x'.cC, .slice x'.aR d.nR x'.cR, .int .i32 a1]) := by rw [unhide HA1]; exact hso
                subst hso'
                have HF : Hid (Fin w19 d x' x2 w.heap.size w14.heap.size at' atO aWA aWC aWR j ft s1) := by
                  have h17 := unhide HB17
                  have hc := unhide HC18
                  have hout := unhide HOUT
                  have hsz := unhide HSZ
                  have ho := ((unhide HM18).below hb19).own
                  have hx2 : SOwn w19 w13.heap.size d x2 := ((((unhide HOX16).below h17).chg hc (fun y hy => hout _ (.inl (by have := (unhide HOX16).low y hy; omega)) ((unhide HOX16).lt y hy)))).below hb19
                  have hw : ∀ y : Addr, (some y = aWA ∨ some y = aWC ∨ some y = aWR) → ¬ wr4 x' sb y.block := fun y hy => hout _ (.inl (by have := unhide HW13 y hy; omega)) (by have := unhide HW13 y hy; omega)
                  have oA := ((((unhide HWA16).below h17).chg hc (fun y e => hw y (.inl e.symm)))).below hb19
                  have oC := ((((unhide HWC16).below h17).chg hc (fun y e => hw y (.inr (.inl e.symm))))).below hb19
                  have oR := ((((unhide HWR16).below h17).chg hc (fun y e => hw y (.inr (.inr e.symm))))).below hb19
                  have oT := ((((unhide HT16).below h17).chg hc (unhide HTT))).below hb19
                  have oO := ((((unhide HTO16).below h17).chg hc (fun y e => hout _ (.inl (by have := unhide HLO y e; omega)) (by have := unhide HLO y e; omega)))).below hb19
                  have bx := (((unhide BX16).below h17).chg hc (hout _ (.inr (by omega)) (unhide BX16).lt)).below hb19
                  have bo := (((unhide BO16).below h17).chg hc (hout _ (.inl (by omega)) (unhide BO16).lt)).below hb19
                  have es : s1 = attS d vf dp ft j := unhide HS1
                  have rA : Row w19 x'.aA d.nA (fun i => .int .i32 ((attS d vf dp ft j).att i)) := ho.oA.row
                  have rC : Row w19 x'.aC d.nC (fun i => .int .i32 ((attS d vf dp ft j).cnt i)) := ho.oC.row
                  have rR : Row w19 x'.aR d.nR (fun i => .int .i32 ((attS d vf dp ft j).rem i)) := ho.oR.row
                  rw [← es] at rA rC rR
                  exact ⟨rA, rC, rR, oA.row, oC.row, oR.row, ho.oL.row, hx2.oL.row, ho.oW.row, hx2.oW.row, oT.row, oO.row,
                    ⟨ho.oV.row, ho.oP.row, ho.oSt.row, ho.oSu.row, ho.oPS.row, ho.oPr.row, ho.oVL.row⟩, ⟨hx2.oV.row, hx2.oP.row, hx2.oSt.row, hx2.oSu.row, hx2.oPS.row, hx2.oPr.row, hx2.oVL.row⟩, bx, bo⟩
                have HB19 : Hid (Below w.heap.size w w19) := by
                  have h1 := (unhide HB16).trans ((unhide HB17).mono (unhide HB16).size)
                  have h2 := h1.trans ((unhide HC18).toBelow h1.size (unhide HLOW))
                  exact h2.trans (hb19.mono h2.size)
                clear hso hb19 HM18 HC18 HB17 HM17 HOUT HLOW HTT HWA16 HWC16 HWR16 HT16 HTO16 BX16 BO16 HOX16 HO16 HB16 HLO HSZ HW13 HFL HAT
                have eA := hide (unhide HK).st.eA
                have eC := hide (unhide HK).st.eC
                have eR := hide (unhide HK).st.eR
                go_wp2_with fail
                refine (eqI_same x'.aA d.nA x'.cA aWA cWA s1.att _ w19 (unhide HS).sA (unhide HF).rA (unhide HF).wA (fun i hi => by rw [if_pos (by have := unhide eA; omega)])).mono ?_
                rintro e w20 ⟨rfl, hb⟩
                have HF20 := hide ((unhide HF).below hb)
                have HB20 := hide ((unhide HB19).trans (hb.mono (unhide HB19).size))
                clear hb HF HB19
                go_wp2_with fail
                refine (eqI_same x'.aC d.nC x'.cC aWC cWC s1.cnt _ w20 (unhide HS).sC (unhide HF20).rC (unhide HF20).wC (fun i hi => by rw [if_pos (by have := unhide eC; omega)])).mono ?_
                rintro e w21 ⟨rfl, hb⟩
                have HF21 := hide ((unhide HF20).below hb)
                have HB21 := hide ((unhide HB20).trans (hb.mono (unhide HB20).size))
                clear hb HF20 HB20
                go_wp2_with fail
                refine (eqI_same x'.aR d.nR x'.cR aWR cWR s1.rem _ w21 (unhide HS).sR (unhide HF21).rR (unhide HF21).wR (fun i hi => by rw [if_pos (by have := unhide eR; omega)])).mono ?_
                rintro e w22 ⟨rfl, hb⟩
                have HF22 := hide ((unhide HF21).below hb)
                have HB22 := hide ((unhide HB21).trans (hb.mono (unhide HB21).size))
                clear hb HF21 HB21
                have f4 := (unhide HF22).bo.c 4 (by omega)
                have f4' : w22.cell? ⟨w14.heap.size, 4, none⟩ = some (.slice x2.aL d.nL x2.cL) := f4
                clear f4
                go_wp2_with fail
                refine (eqI_same x'.aL d.nL x'.cL x2.aL x2.cL d.fL d.fL w22 (unhide HS).sL (unhide HF22).rL (unhide HF22).qL (fun i hi => rfl)).mono ?_
                rintro e w23 ⟨rfl, hb⟩
                have HF23 := hide ((unhide HF22).below hb)
                have HB23 := hide ((unhide HB22).trans (hb.mono (unhide HB22).size))
                clear hb HF22 HB22 f4'
                have f5' : w23.cell? ⟨w14.heap.size, 5, none⟩ = some (.slice x2.aW d.nW x2.cW) := (unhide HF23).bo.c 5 (by omega)
                go_wp2_with fail
                refine (eqB_same x'.aW d.nW x'.cW x2.aW x2.cW d.fW d.fW w23 (unhide HS).sW (unhide HF23).rW (unhide HF23).qW (fun i hi => rfl)).mono ?_
                rintro e w24 ⟨rfl, hb⟩
                have HF24 := hide ((unhide HF23).below hb)
                have HB24' := hide ((unhide HB23).trans (hb.mono (unhide HB23).size))
                clear hb HF23 HB23 f5'
                go_wp2_with fail
                refine (eqI_same at' j ct' atO ctO ft ft w24 hnt (unhide HF24).rT (unhide HF24).qT (fun i hi => rfl)).mono ?_
                rintro e w25 ⟨rfl, hb⟩
                have HF25 := hide ((unhide HF24).below hb)
                have HB25 := hide ((unhide HB24').trans (hb.mono (unhide HB24').size))
                clear hb HF24 HB24'
                obtain ⟨c0, c1, c2, c3, c4, c5, c6, c7, c8, c9, c10, c11, c12⟩ := (unhide HF25).bx.cells
                obtain ⟨e0, e1, e2, e3, e4, e5, e6, e7, e8, e9, e10, e11, e12⟩ := (unhide HF25).bo.cells
                go_wp2_with fail
                refine (sameGame_any d x' x2 w25 (unhide HS) (unhide HF25).g1 (unhide HF25).g2).mono ?_
                rintro e w26 ⟨rfl, hb⟩
                have HB26 := hide ((unhide HB25).trans (hb.mono (unhide HB25).size))
                clear hb HF25 HB25 c0 c1 c2 c3 c4 c5 c6 c7 c8 c9 c10 c11 c12 e0 e1 e2 e3 e4 e5 e6 e7 e8 e9 e10 e11 e12
                go_wp2
                go_ret
                exact ⟨rfl, unhide HB26⟩

end Go.Proofs.Qxb6605408a
