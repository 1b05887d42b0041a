import Derived.Test.Qxb6605408aTop
namespace Go.Proofs.Qxb6605408a
open Go.RowKit
set_option linter.unusedVariables false

set_option maxRecDepth 100000 in
set_option maxHeartbeats 4000000 in
theorem eqI_same (a : Option Addr) (n c : Nat) (a' : Option Addr) (c' : Nat) (f f' : Nat → Int) (w : World) (hn : n ≤ 1048576) (hr : Row w a n (fun i => .int .i32 (f i))) (hr' : Row w a' n (fun i => .int .i32 (f' i))) (he : ∀ i, i < n → f i = f' i) :
    Calls Try.prog 14 #[.slice a n c, .slice a' n c'] w fun e w' => e = .returned (.bool true) ∧ Below w.heap.size w w' := by
  have HR := hide hr
  have HR' := hide hr'
  have HE := hide he
  clear hr hr' he
  go_enter Try.func14, Try.ntmps14
  go_wp2
  go_loopw [13] (fun i wr => ∃ k : Nat, k ≤ n ∧ i = .int .i64 k ∧ Hid (Below w.heap.size w wr)) (fun i _ => n - (intOf i).toNat)
  case atStart => exact ⟨0, Nat.zero_le _, rfl, Below.refl _ _⟩
  case round =>
    obtain ⟨k, hk, rfl, HW⟩ := hrel
    by_cases hkl : k < n
    · obtain ⟨b, off, ha, hb, hc⟩ := unhide HR (by omega)
      obtain ⟨b', off', ha', hb', hc'⟩ := unhide HR' (by omega)
      have c1 : wr.cell? ⟨b, off + k, none⟩ = some (.int .i32 (f k)) := laterCell (unhide HW) (hc k hkl)
      have c2 : wr.cell? ⟨b', off' + k, none⟩ = some (.int .i32 (f k)) := by rw [unhide HE k hkl]; exact laterCell (unhide HW) (hc' k hkl)
      have hki : (k : Int) < (n : Int) := by omega
      clear hc hc'
      subst ha
      subst ha'
      go_wp2
      go_quiet (fail)
      go_wp2
      go_roundw
      case rel => exact ⟨k + 1, by omega, by go_num, (unhide HW).trans ((below_drawn _ _).mono (unhide HW).size)⟩
      case measure => simp [intOf]; omega
    · have hke : k = n := by omega
      subst hke
      go_wp2
      go_ret
      exact ⟨rfl, unhide HW⟩

set_option maxRecDepth 100000 in
set_option maxHeartbeats 4000000 in
theorem eqB_same (a : Option Addr) (n c : Nat) (a' : Option Addr) (c' : Nat) (f f' : Nat → Bool) (w : World) (hn : n ≤ 1048576) (hr : Row w a n (fun i => .bool (f i))) (hr' : Row w a' n (fun i => .bool (f' i))) (he : ∀ i, i < n → f i = f' i) :
    Calls Try.prog 15 #[.slice a n c, .slice a' n c'] w fun e w' => e = .returned (.bool true) ∧ Below w.heap.size w w' := by
  have HR := hide hr
  have HR' := hide hr'
  have HE := hide he
  clear hr hr' he
  go_enter Try.func15, Try.ntmps15
  go_wp2
  go_loopw [13] (fun i wr => ∃ k : Nat, k ≤ n ∧ i = .int .i64 k ∧ Hid (Below w.heap.size w wr)) (fun i _ => n - (intOf i).toNat)
  case atStart => exact ⟨0, Nat.zero_le _, rfl, Below.refl _ _⟩
  case round =>
    obtain ⟨k, hk, rfl, HW⟩ := hrel
    by_cases hkl : k < n
    · obtain ⟨b, off, ha, hb, hc⟩ := unhide HR (by omega)
      obtain ⟨b', off', ha', hb', hc'⟩ := unhide HR' (by omega)
      have c1 : wr.cell? ⟨b, off + k, none⟩ = some (.bool (f k)) := laterCell (unhide HW) (hc k hkl)
      have c2 : wr.cell? ⟨b', off' + k, none⟩ = some (.bool (f k)) := by rw [unhide HE k hkl]; exact laterCell (unhide HW) (hc' k hkl)
      have hki : (k : Int) < (n : Int) := by omega
      clear hc hc'
      subst ha
      subst ha'
      go_wp2
      go_quiet (fail)
      go_wp2
      go_roundw
      case rel => exact ⟨k + 1, by omega, by go_num, (unhide HW).trans ((below_drawn _ _).mono (unhide HW).size)⟩
      case measure => simp [intOf]; omega
    · have hke : k = n := by omega
      subst hke
      go_wp2
      go_ret
      exact ⟨rfl, unhide HW⟩

/-- the rows that sameGame compares -/
structure GRows (w : World) (d : SD) (x : SA) : Prop where
  rV : Row w x.aV d.nV (fun i => .bool (d.fV i))
  rP : Row w x.aP d.nP (fun i => .int .i32 (d.fP i))
  rSt : Row w x.aSt d.nSt (fun i => .int .i32 (d.fSt i))
  rSu : Row w x.aSu d.nSu (fun i => .int .i32 (d.fSu i))
  rPS : Row w x.aPS d.nPS (fun i => .int .i32 (d.fPS i))
  rPr : Row w x.aPr d.nPr (fun i => .int .i32 (d.fPr i))
  rVL : Row w x.aVL d.nVL (fun i => .int .i32 (d.fVL i))

theorem GRows.below {w w' : World} {d : SD} {x : SA} (h : GRows w d x) (hb : Below w.heap.size w w') : GRows w' d x :=
  ⟨h.rV.below hb, h.rP.below hb, h.rSt.below hb, h.rSu.below hb, h.rPS.below hb, h.rPr.below hb, h.rVL.below hb⟩

attribute [local go_sem ↓] Go.wp_at_zero Go.wp_at_succ

set_option maxRecDepth 100000 in
set_option maxHeartbeats 8000000 in
theorem sameGame_any (d : SD) (x y : SA) (w : World) (hs : SSmall d) (h1 : GRows w d x) (h2 : GRows w d y) :
    Calls Try.prog 16 #[.agg (vals d x), .agg (vals d y)] w fun e w' => e = .returned (.bool true) ∧ Below w.heap.size w w' := by
  show Calls Try.prog 16 #[.agg #[.slice x.aV d.nV x.cV, .slice x.aP d.nP x.cP, .slice x.aSt d.nSt x.cSt, .slice x.aSu d.nSu x.cSu, .slice x.aL d.nL x.cL, .slice x.aW d.nW x.cW, .slice x.aA d.nA x.cA, .slice x.aC d.nC x.cC, .slice x.aR d.nR x.cR, .int .i32 d.at_, .slice x.aPS d.nPS x.cPS, .slice x.aPr d.nPr x.cPr, .slice x.aVL d.nVL x.cVL], .agg #[.slice y.aV d.nV y.cV, .slice y.aP d.nP y.cP, .slice y.aSt d.nSt y.cSt, .slice y.aSu d.nSu y.cSu, .slice y.aL d.nL y.cL, .slice y.aW d.nW y.cW, .slice y.aA d.nA y.cA, .slice y.aC d.nC y.cC, .slice y.aR d.nR y.cR, .int .i32 d.at_, .slice y.aPS d.nPS y.cPS, .slice y.aPr d.nPr y.cPr, .slice y.aVL d.nVL y.cVL]] w _
  have hb0 : Below w.heap.size w ((w.alloc (.cells (vals d x) 25)).alloc (.cells (vals d y) 25)) := ((Below.refl _ _).alloc (Nat.le_refl _) _).alloc (by simp) _
  have hbx : Box ((w.alloc (.cells (vals d x) 25)).alloc (.cells (vals d y) 25)) w.heap.size d x := (box_new w d x).below ((Below.refl _ _).alloc (Nat.le_refl _) _)
  have hby : Box ((w.alloc (.cells (vals d x) 25)).alloc (.cells (vals d y) 25)) (w.heap.size + 1) d y := by
    have h := box_new (w.alloc (.cells (vals d x) 25)) d y
    rw [World.size_alloc] at h
    exact h
  obtain ⟨W0, hW0⟩ : ∃ W, W = ((w.alloc (.cells (vals d x) 25)).alloc (.cells (vals d y) 25)) := ⟨_, rfl⟩
  rw [← hW0] at hb0 hbx hby
  have BX := hide hbx
  have BY := hide hby
  have H1 := hide (h1.below hb0)
  have H2 := hide (h2.below hb0)
  have HB0 := hide hb0
  have HS := hide hs
  clear h1 h2 hs hb0 hbx hby
  go_enter Try.func16, Try.ntmps16
  simp only [vals] at hW0
  obtain ⟨c0, c1, c2, c3, c4, c5, c6, c7, c8, c9, c10, c11, c12⟩ := (unhide BX).cells
  obtain ⟨e0, e1, e2, e3, e4, e5, e6, e7, e8, e9, e10, e11, e12⟩ := (unhide BY).cells
  go_wp2_with fail
  rw [← hW0]
  clear hW0
  refine (eqB_same x.aV d.nV x.cV y.aV y.cV d.fV d.fV W0 (unhide HS).sV (unhide H1).rV (unhide H2).rV (fun _ _ => rfl)).mono ?_
  rintro e u1 ⟨rfl, hb⟩
  have bx := (unhide BX).below hb
  have by_ := (unhide BY).below hb
  have g1 := (unhide H1).below hb
  have g2 := (unhide H2).below hb
  have hB := (unhide HB0).trans (hb.mono (unhide HB0).size)
  clear hb BX BY H1 H2 HB0 c0 c1 c2 c3 c4 c5 c6 c7 c8 c9 c10 c11 c12 e0 e1 e2 e3 e4 e5 e6 e7 e8 e9 e10 e11 e12
  have BX := hide bx
  have BY := hide by_
  have H1 := hide g1
  have H2 := hide g2
  have HB0 := hide hB
  obtain ⟨c0, c1, c2, c3, c4, c5, c6, c7, c8, c9, c10, c11, c12⟩ := bx.cells
  obtain ⟨e0, e1, e2, e3, e4, e5, e6, e7, e8, e9, e10, e11, e12⟩ := by_.cells
  clear bx by_ g1 g2 hB
  go_wp2_with fail
  refine (eqI_same x.aP d.nP x.cP y.aP y.cP d.fP d.fP u1 (unhide HS).sP (unhide H1).rP (unhide H2).rP (fun _ _ => rfl)).mono ?_
  rintro e u2 ⟨rfl, hb⟩
  have bx := (unhide BX).below hb
  have by_ := (unhide BY).below hb
  have g1 := (unhide H1).below hb
  have g2 := (unhide H2).below hb
  have hB := (unhide HB0).trans (hb.mono (unhide HB0).size)
  clear hb BX BY H1 H2 HB0 c0 c1 c2 c3 c4 c5 c6 c7 c8 c9 c10 c11 c12 e0 e1 e2 e3 e4 e5 e6 e7 e8 e9 e10 e11 e12
  have BX := hide bx
  have BY := hide by_
  have H1 := hide g1
  have H2 := hide g2
  have HB0 := hide hB
  obtain ⟨c0, c1, c2, c3, c4, c5, c6, c7, c8, c9, c10, c11, c12⟩ := bx.cells
  obtain ⟨e0, e1, e2, e3, e4, e5, e6, e7, e8, e9, e10, e11, e12⟩ := by_.cells
  clear bx by_ g1 g2 hB
  go_wp2_with fail
  refine (eqI_same x.aSt d.nSt x.cSt y.aSt y.cSt d.fSt d.fSt u2 (unhide HS).sSt (unhide H1).rSt (unhide H2).rSt (fun _ _ => rfl)).mono ?_
  rintro e u3 ⟨rfl, hb⟩
  have bx := (unhide BX).below hb
  have by_ := (unhide BY).below hb
  have g1 := (unhide H1).below hb
  have g2 := (unhide H2).below hb
  have hB := (unhide HB0).trans (hb.mono (unhide HB0).size)
  clear hb BX BY H1 H2 HB0 c0 c1 c2 c3 c4 c5 c6 c7 c8 c9 c10 c11 c12 e0 e1 e2 e3 e4 e5 e6 e7 e8 e9 e10 e11 e12
  have BX := hide bx
  have BY := hide by_
  have H1 := hide g1
  have H2 := hide g2
  have HB0 := hide hB
  obtain ⟨c0, c1, c2, c3, c4, c5, c6, c7, c8, c9, c10, c11, c12⟩ := bx.cells
  obtain ⟨e0, e1, e2, e3, e4, e5, e6, e7, e8, e9, e10, e11, e12⟩ := by_.cells
  clear bx by_ g1 g2 hB
  go_wp2_with fail
  refine (eqI_same x.aSu d.nSu x.cSu y.aSu y.cSu d.fSu d.fSu u3 (unhide HS).sSu (unhide H1).rSu (unhide H2).rSu (fun _ _ => rfl)).mono ?_
  rintro e u4 ⟨rfl, hb⟩
  have bx := (unhide BX).below hb
  have by_ := (unhide BY).below hb
  have g1 := (unhide H1).below hb
  have g2 := (unhide H2).below hb
  have hB := (unhide HB0).trans (hb.mono (unhide HB0).size)
  clear hb BX BY H1 H2 HB0 c0 c1 c2 c3 c4 c5 c6 c7 c8 c9 c10 c11 c12 e0 e1 e2 e3 e4 e5 e6 e7 e8 e9 e10 e11 e12
  have BX := hide bx
  have BY := hide by_
  have H1 := hide g1
  have H2 := hide g2
  have HB0 := hide hB
  obtain ⟨c0, c1, c2, c3, c4, c5, c6, c7, c8, c9, c10, c11, c12⟩ := bx.cells
  obtain ⟨e0, e1, e2, e3, e4, e5, e6, e7, e8, e9, e10, e11, e12⟩ := by_.cells
  clear bx by_ g1 g2 hB
  go_wp2_with fail
  refine (eqI_same x.aPS d.nPS x.cPS y.aPS y.cPS d.fPS d.fPS u4 (unhide HS).sPS (unhide H1).rPS (unhide H2).rPS (fun _ _ => rfl)).mono ?_
  rintro e u5 ⟨rfl, hb⟩
  have bx := (unhide BX).below hb
  have by_ := (unhide BY).below hb
  have g1 := (unhide H1).below hb
  have g2 := (unhide H2).below hb
  have hB := (unhide HB0).trans (hb.mono (unhide HB0).size)
  clear hb BX BY H1 H2 HB0 c0 c1 c2 c3 c4 c5 c6 c7 c8 c9 c10 c11 c12 e0 e1 e2 e3 e4 e5 e6 e7 e8 e9 e10 e11 e12
  have BX := hide bx
  have BY := hide by_
  have H1 := hide g1
  have H2 := hide g2
  have HB0 := hide hB
  obtain ⟨c0, c1, c2, c3, c4, c5, c6, c7, c8, c9, c10, c11, c12⟩ := bx.cells
  obtain ⟨e0, e1, e2, e3, e4, e5, e6, e7, e8, e9, e10, e11, e12⟩ := by_.cells
  clear bx by_ g1 g2 hB
  go_wp2_with fail
  refine (eqI_same x.aPr d.nPr x.cPr y.aPr y.cPr d.fPr d.fPr u5 (unhide HS).sPr (unhide H1).rPr (unhide H2).rPr (fun _ _ => rfl)).mono ?_
  rintro e u6 ⟨rfl, hb⟩
  have bx := (unhide BX).below hb
  have by_ := (unhide BY).below hb
  have g1 := (unhide H1).below hb
  have g2 := (unhide H2).below hb
  have hB := (unhide HB0).trans (hb.mono (unhide HB0).size)
  clear hb BX BY H1 H2 HB0 c0 c1 c2 c3 c4 c5 c6 c7 c8 c9 c10 c11 c12 e0 e1 e2 e3 e4 e5 e6 e7 e8 e9 e10 e11 e12
  have BX := hide bx
  have BY := hide by_
  have H1 := hide g1
  have H2 := hide g2
  have HB0 := hide hB
  obtain ⟨c0, c1, c2, c3, c4, c5, c6, c7, c8, c9, c10, c11, c12⟩ := bx.cells
  obtain ⟨e0, e1, e2, e3, e4, e5, e6, e7, e8, e9, e10, e11, e12⟩ := by_.cells
  clear bx by_ g1 g2 hB
  go_wp2_with fail
  refine (eqI_same x.aVL d.nVL x.cVL y.aVL y.cVL d.fVL d.fVL u6 (unhide HS).sVL (unhide H1).rVL (unhide H2).rVL (fun _ _ => rfl)).mono ?_
  rintro e u7 ⟨rfl, hb⟩
  have bx := (unhide BX).below hb
  have by_ := (unhide BY).below hb
  have g1 := (unhide H1).below hb
  have g2 := (unhide H2).below hb
  have hB := (unhide HB0).trans (hb.mono (unhide HB0).size)
  clear hb BX BY H1 H2 HB0 c0 c1 c2 c3 c4 c5 c6 c7 c8 c9 c10 c11 c12 e0 e1 e2 e3 e4 e5 e6 e7 e8 e9 e10 e11 e12
  have BX := hide bx
  have BY := hide by_
  have H1 := hide g1
  have H2 := hide g2
  have HB0 := hide hB
  obtain ⟨c0, c1, c2, c3, c4, c5, c6, c7, c8, c9, c10, c11, c12⟩ := bx.cells
  obtain ⟨e0, e1, e2, e3, e4, e5, e6, e7, e8, e9, e10, e11, e12⟩ := by_.cells
  clear bx by_ g1 g2 hB
  go_wp2
  go_ret
  exact ⟨rfl, unhide HB0⟩

end Go.Proofs.Qxb6605408a
