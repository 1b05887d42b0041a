import Derived.Test.Qxb6605408aClone
import Derived.Deep.RegionHeld3
import Derived.Deep.RegionWith
import Derived.Deep.DrawnRows
namespace Go.Proofs.Qxb6605408a
open Go.RowKit
set_option linter.unusedVariables false

/-- what a Solver holds -/
structure SD where
  nV : Nat
  fV : Nat → Bool
  nP : Nat
  fP : Nat → Int
  nSt : Nat
  fSt : Nat → Int
  nSu : Nat
  fSu : Nat → Int
  nL : Nat
  fL : Nat → Int
  nW : Nat
  fW : Nat → Bool
  nA : Nat
  fA : Nat → Int
  nC : Nat
  fC : Nat → Int
  nR : Nat
  fR : Nat → Int
  at_ : Int
  nPS : Nat
  fPS : Nat → Int
  nPr : Nat
  fPr : Nat → Int
  nVL : Nat
  fVL : Nat → Int

/-- where its slices lie -/
structure SA where
  aV : Option Addr
  cV : Nat
  aP : Option Addr
  cP : Nat
  aSt : Option Addr
  cSt : Nat
  aSu : Option Addr
  cSu : Nat
  aL : Option Addr
  cL : Nat
  aW : Option Addr
  cW : Nat
  aA : Option Addr
  cA : Nat
  aC : Option Addr
  cC : Nat
  aR : Option Addr
  cR : Nat
  aPS : Option Addr
  cPS : Nat
  aPr : Option Addr
  cPr : Nat
  aVL : Option Addr
  cVL : Nat

def vals (d : SD) (x : SA) : Array Value := #[.slice x.aV d.nV x.cV, .slice x.aP d.nP x.cP, .slice x.aSt d.nSt x.cSt, .slice x.aSu d.nSu x.cSu, .slice x.aL d.nL x.cL, .slice x.aW d.nW x.cW, .slice x.aA d.nA x.cA, .slice x.aC d.nC x.cC, .slice x.aR d.nR x.cR, .int .i32 d.at_, .slice x.aPS d.nPS x.cPS, .slice x.aPr d.nPr x.cPr, .slice x.aVL d.nVL x.cVL]

/-- the Solver reads so -/
structure SRows (w : World) (d : SD) (x : SA) : Prop where
  rV : Row w x.aV d.nV (fun i => .bool (d.fV i))
  rP : Row w x.aP d.nP (fun i => .int .i32 (d.fP i))
  rSt : Row w x.aSt d.nSt (fun i => .int .i32 (d.fSt i))
  rSu : Row w x.aSu d.nSu (fun i => .int .i32 (d.fSu i))
  rL : Row w x.aL d.nL (fun i => .int .i32 (d.fL i))
  rW : Row w x.aW d.nW (fun i => .bool (d.fW i))
  rA : Row w x.aA d.nA (fun i => .int .i32 (d.fA i))
  rC : Row w x.aC d.nC (fun i => .int .i32 (d.fC i))
  rR : Row w x.aR d.nR (fun i => .int .i32 (d.fR i))
  rPS : Row w x.aPS d.nPS (fun i => .int .i32 (d.fPS i))
  rPr : Row w x.aPr d.nPr (fun i => .int .i32 (d.fPr i))
  rVL : Row w x.aVL d.nVL (fun i => .int .i32 (d.fVL i))

/-- no field is too long -/
structure SSmall (d : SD) : Prop where
  sV : d.nV ≤ 1048576
  sP : d.nP ≤ 1048576
  sSt : d.nSt ≤ 1048576
  sSu : d.nSu ≤ 1048576
  sL : d.nL ≤ 1048576
  sW : d.nW ≤ 1048576
  sA : d.nA ≤ 1048576
  sC : d.nC ≤ 1048576
  sR : d.nR ≤ 1048576
  sPS : d.nPS ≤ 1048576
  sPr : d.nPr ≤ 1048576
  sVL : d.nVL ≤ 1048576

/-- the fields lie in blocks of their own, in rising order -/
structure SOwn (w : World) (base : Nat) (d : SD) (x : SA) : Prop where
  oV : ORow w 4 x.aV d.nV (fun i => .bool (d.fV i))
  oP : ORow w 21 x.aP d.nP (fun i => .int .i32 (d.fP i))
  oSt : ORow w 21 x.aSt d.nSt (fun i => .int .i32 (d.fSt i))
  oSu : ORow w 21 x.aSu d.nSu (fun i => .int .i32 (d.fSu i))
  oL : ORow w 21 x.aL d.nL (fun i => .int .i32 (d.fL i))
  oW : ORow w 4 x.aW d.nW (fun i => .bool (d.fW i))
  oA : ORow w 21 x.aA d.nA (fun i => .int .i32 (d.fA i))
  oC : ORow w 21 x.aC d.nC (fun i => .int .i32 (d.fC i))
  oR : ORow w 21 x.aR d.nR (fun i => .int .i32 (d.fR i))
  oPS : ORow w 21 x.aPS d.nPS (fun i => .int .i32 (d.fPS i))
  oPr : ORow w 21 x.aPr d.nPr (fun i => .int .i32 (d.fPr i))
  oVL : ORow w 21 x.aVL d.nVL (fun i => .int .i32 (d.fVL i))
  kV : d.nV ≤ x.cV
  kP : d.nP ≤ x.cP
  kSt : d.nSt ≤ x.cSt
  kSu : d.nSu ≤ x.cSu
  kL : d.nL ≤ x.cL
  kW : d.nW ≤ x.cW
  kA : d.nA ≤ x.cA
  kC : d.nC ≤ x.cC
  kR : d.nR ≤ x.cR
  kPS : d.nPS ≤ x.cPS
  kPr : d.nPr ≤ x.cPr
  kVL : d.nVL ≤ x.cVL
  chain : ∃ h0 h1 h2 h3 h4 h5 h6 h7 h8 h9 h10 h11 h12 : Nat, base ≤ h0 ∧ h0 ≤ h1 ∧ h1 ≤ h2 ∧ h2 ≤ h3 ∧ h3 ≤ h4 ∧ h4 ≤ h5 ∧ h5 ≤ h6 ∧ h6 ≤ h7 ∧ h7 ≤ h8 ∧ h8 ≤ h9 ∧ h9 ≤ h10 ∧ h10 ≤ h11 ∧ h11 ≤ h12 ∧ h12 ≤ w.heap.size ∧ (∀ y, x.aV = some y → h0 ≤ y.block ∧ y.block < h1) ∧ (∀ y, x.aP = some y → h1 ≤ y.block ∧ y.block < h2) ∧ (∀ y, x.aSt = some y → h2 ≤ y.block ∧ y.block < h3) ∧ (∀ y, x.aSu = some y → h3 ≤ y.block ∧ y.block < h4) ∧ (∀ y, x.aL = some y → h4 ≤ y.block ∧ y.block < h5) ∧ (∀ y, x.aW = some y → h5 ≤ y.block ∧ y.block < h6) ∧ (∀ y, x.aA = some y → h6 ≤ y.block ∧ y.block < h7) ∧ (∀ y, x.aC = some y → h7 ≤ y.block ∧ y.block < h8) ∧ (∀ y, x.aR = some y → h8 ≤ y.block ∧ y.block < h9) ∧ (∀ y, x.aPS = some y → h9 ≤ y.block ∧ y.block < h10) ∧ (∀ y, x.aPr = some y → h10 ≤ y.block ∧ y.block < h11) ∧ (∀ y, x.aVL = some y → h11 ≤ y.block ∧ y.block < h12)

theorem SRows.below {w w' : World} {d : SD} {x : SA} (h : SRows w d x) (hb : Below w.heap.size w w') : SRows w' d x :=
  ⟨h.rV.below hb, h.rP.below hb, h.rSt.below hb, h.rSu.below hb, h.rL.below hb, h.rW.below hb, h.rA.below hb, h.rC.below hb, h.rR.below hb, h.rPS.below hb, h.rPr.below hb, h.rVL.below hb⟩

theorem SOwn.rows {w : World} {base : Nat} {d : SD} {x : SA} (h : SOwn w base d x) : SRows w d x :=
  ⟨h.oV.row, h.oP.row, h.oSt.row, h.oSu.row, h.oL.row, h.oW.row, h.oA.row, h.oC.row, h.oR.row, h.oPS.row, h.oPr.row, h.oVL.row⟩

theorem SOwn.below {w w' : World} {base : Nat} {d : SD} {x : SA} (h : SOwn w base d x) (hb : Below w.heap.size w w') : SOwn w' base d x := by
  obtain ⟨h0, h1, h2, h3, h4, h5, h6, h7, h8, h9, h10, h11, h12, e0, e1, e2, e3, e4, e5, e6, e7, e8, e9, e10, e11, e12, e13, r⟩ := h.chain
  exact ⟨h.oV.below hb, h.oP.below hb, h.oSt.below hb, h.oSu.below hb, h.oL.below hb, h.oW.below hb, h.oA.below hb, h.oC.below hb, h.oR.below hb, h.oPS.below hb, h.oPr.below hb, h.oVL.below hb, h.kV, h.kP, h.kSt, h.kSu, h.kL, h.kW, h.kA, h.kC, h.kR, h.kPS, h.kPr, h.kVL, h0, h1, h2, h3, h4, h5, h6, h7, h8, h9, h10, h11, h12, e0, e1, e2, e3, e4, e5, e6, e7, e8, e9, e10, e11, e12, Nat.le_trans e13 hb.size, r⟩

theorem cloneI_chain (w : World) (a : Option Addr) (n cap : Nat) (f : Nat → Int) (W : World) (hB : Below w.heap.size w W) (hn : n ≤ 1048576) (hr : Row w a n (fun i => .int .i32 (f i))) :
    Calls Try.prog 9 #[.slice a n cap] W fun e w' => ∃ a' c', e = .returned (.slice a' n c') ∧ ORow w' 21 a' n (fun i => .int .i32 (f i)) ∧ n ≤ c' ∧ Below W.heap.size W w' ∧ Hid (Below w.heap.size w w') ∧ (∀ x, a' = some x → W.heap.size ≤ x.block ∧ x.block < w'.heap.size) := by
  refine (cloneI_any a n cap f W hn (hr.below hB)).mono ?_
  rintro e w' ⟨a', c', h1, h2, h3, h4, h5⟩
  exact ⟨a', c', h1, h2, h3, h4, hB.trans (h4.mono hB.size), h5⟩
theorem cloneB_chain (w : World) (a : Option Addr) (n cap : Nat) (f : Nat → Bool) (W : World) (hB : Below w.heap.size w W) (hn : n ≤ 1048576) (hr : Row w a n (fun i => .bool (f i))) :
    Calls Try.prog 22 #[.slice a n cap] W fun e w' => ∃ a' c', e = .returned (.slice a' n c') ∧ ORow w' 4 a' n (fun i => .bool (f i)) ∧ n ≤ c' ∧ Below W.heap.size W w' ∧ Hid (Below w.heap.size w w') ∧ (∀ x, a' = some x → W.heap.size ≤ x.block ∧ x.block < w'.heap.size) := by
  refine (cloneB_any a n cap f W hn (hr.below hB)).mono ?_
  rintro e w' ⟨a', c', h1, h2, h3, h4, h5⟩
  exact ⟨a', c', h1, h2, h3, h4, hB.trans (h4.mono hB.size), h5⟩

theorem keepBox {W w' : World} {b : Nat} {v0 v1 v2 v3 v4 v5 v6 v7 v8 v9 v10 v11 v12 : Value} (hb : Below W.heap.size W w') (h : W.cell? ⟨b, 0, none⟩ = some v0 ∧ W.cell? ⟨b, 1, none⟩ = some v1 ∧ W.cell? ⟨b, 2, none⟩ = some v2 ∧ W.cell? ⟨b, 3, none⟩ = some v3 ∧ W.cell? ⟨b, 4, none⟩ = some v4 ∧ W.cell? ⟨b, 5, none⟩ = some v5 ∧ W.cell? ⟨b, 6, none⟩ = some v6 ∧ W.cell? ⟨b, 7, none⟩ = some v7 ∧ W.cell? ⟨b, 8, none⟩ = some v8 ∧ W.cell? ⟨b, 9, none⟩ = some v9 ∧ W.cell? ⟨b, 10, none⟩ = some v10 ∧ W.cell? ⟨b, 11, none⟩ = some v11 ∧ W.cell? ⟨b, 12, none⟩ = some v12) :
    w'.cell? ⟨b, 0, none⟩ = some v0 ∧ w'.cell? ⟨b, 1, none⟩ = some v1 ∧ w'.cell? ⟨b, 2, none⟩ = some v2 ∧ w'.cell? ⟨b, 3, none⟩ = some v3 ∧ w'.cell? ⟨b, 4, none⟩ = some v4 ∧ w'.cell? ⟨b, 5, none⟩ = some v5 ∧ w'.cell? ⟨b, 6, none⟩ = some v6 ∧ w'.cell? ⟨b, 7, none⟩ = some v7 ∧ w'.cell? ⟨b, 8, none⟩ = some v8 ∧ w'.cell? ⟨b, 9, none⟩ = some v9 ∧ w'.cell? ⟨b, 10, none⟩ = some v10 ∧ w'.cell? ⟨b, 11, none⟩ = some v11 ∧ w'.cell? ⟨b, 12, none⟩ = some v12 := by
  have k : ∀ i v, W.cell? ⟨b, i, none⟩ = some v → w'.cell? ⟨b, i, none⟩ = some v := fun i v hc => (hb.cell (p := ⟨b, i, none⟩) (lt_of_cell (a := ⟨b, i, none⟩) hc)).trans hc
  obtain ⟨c0, c1, c2, c3, c4, c5, c6, c7, c8, c9, c10, c11, c12⟩ := h
  exact ⟨k 0 _ c0, k 1 _ c1, k 2 _ c2, k 3 _ c3, k 4 _ c4, k 5 _ c5, k 6 _ c6, k 7 _ c7, k 8 _ c8, k 9 _ c9, k 10 _ c10, k 11 _ c11, k 12 _ c12⟩

theorem keep1 {W : World} {b : Nat} {p : Addr} {u : Value} {v0 v1 v2 v3 v4 v5 v6 v7 v8 v9 v10 v11 v12 : Value} (h : W.cell? ⟨b, 0, none⟩ = some v0 ∧ W.cell? ⟨b, 1, none⟩ = some v1 ∧ W.cell? ⟨b, 2, none⟩ = some v2 ∧ W.cell? ⟨b, 3, none⟩ = some v3 ∧ W.cell? ⟨b, 4, none⟩ = some v4 ∧ W.cell? ⟨b, 5, none⟩ = some v5 ∧ W.cell? ⟨b, 6, none⟩ = some v6 ∧ W.cell? ⟨b, 7, none⟩ = some v7 ∧ W.cell? ⟨b, 8, none⟩ = some v8 ∧ W.cell? ⟨b, 9, none⟩ = some v9 ∧ W.cell? ⟨b, 10, none⟩ = some v10 ∧ W.cell? ⟨b, 11, none⟩ = some v11 ∧ W.cell? ⟨b, 12, none⟩ = some v12) (hp : p.block ≠ b) :
    (W.setCell p u).cell? ⟨b, 0, none⟩ = some v0 ∧ (W.setCell p u).cell? ⟨b, 1, none⟩ = some v1 ∧ (W.setCell p u).cell? ⟨b, 2, none⟩ = some v2 ∧ (W.setCell p u).cell? ⟨b, 3, none⟩ = some v3 ∧ (W.setCell p u).cell? ⟨b, 4, none⟩ = some v4 ∧ (W.setCell p u).cell? ⟨b, 5, none⟩ = some v5 ∧ (W.setCell p u).cell? ⟨b, 6, none⟩ = some v6 ∧ (W.setCell p u).cell? ⟨b, 7, none⟩ = some v7 ∧ (W.setCell p u).cell? ⟨b, 8, none⟩ = some v8 ∧ (W.setCell p u).cell? ⟨b, 9, none⟩ = some v9 ∧ (W.setCell p u).cell? ⟨b, 10, none⟩ = some v10 ∧ (W.setCell p u).cell? ⟨b, 11, none⟩ = some v11 ∧ (W.setCell p u).cell? ⟨b, 12, none⟩ = some v12 := by
  have k : ∀ i v, W.cell? ⟨b, i, none⟩ = some v → (W.setCell p u).cell? ⟨b, i, none⟩ = some v := fun i v hc => (cell_setCell_other (fun e => hp (by rw [e]))).trans hc
  obtain ⟨c0, c1, c2, c3, c4, c5, c6, c7, c8, c9, c10, c11, c12⟩ := h
  exact ⟨k 0 _ c0, k 1 _ c1, k 2 _ c2, k 3 _ c3, k 4 _ c4, k 5 _ c5, k 6 _ c6, k 7 _ c7, k 8 _ c8, k 9 _ c9, k 10 _ c10, k 11 _ c11, k 12 _ c12⟩

theorem farCell (W : World) (b i j : Nat) (u : Value) : (W.setCell ⟨b + 1, j, none⟩ u).cell? ⟨b, i, none⟩ = W.cell? ⟨b, i, none⟩ := cell_setCell_other (by simp)

/-- a new block behind what came later -/
theorem laterCell {W w' : World} {b i : Nat} {v : Value} (hb : Below W.heap.size W w') (hc : W.cell? ⟨b, i, none⟩ = some v) : w'.cell? ⟨b, i, none⟩ = some v := (hb.cell (p := ⟨b, i, none⟩) (lt_of_cell (a := ⟨b, i, none⟩) hc)).trans hc
theorem laterFrozen {W w' : World} {b i : Nat} (hb : Below W.heap.size W w') (hl : b < W.heap.size) (hc : W.frozen? ⟨b, i, none⟩ = false) : w'.frozen? ⟨b, i, none⟩ = false := (hb.frozen (p := ⟨b, i, none⟩) hl).trans hc

attribute [local go_sem ↓] Go.wp_at_zero Go.wp_at_succ

set_option maxRecDepth 100000 in
set_option maxHeartbeats 8000000 in
theorem cloneSolver_any (d : SD) (x : SA) (w : World) (hs : SSmall d) (hr : SRows w d x) :
    Calls Try.prog 8 #[.agg (vals d x)] w fun e w' => ∃ x', e = .returned (.agg (vals d x')) ∧ SOwn w' w.heap.size d x' ∧ Below w.heap.size w w' := by
  obtain ⟨nV, fV, nP, fP, nSt, fSt, nSu, fSu, nL, fL, nW, fW, nA, fA, nC, fC, nR, fR, at_, nPS, fPS, nPr, fPr, nVL, fVL⟩ := d
  obtain ⟨aV, cV, aP, cP, aSt, cSt, aSu, cSu, aL, cL, aW, cW, aA, cA, aC, cC, aR, cR, aPS, cPS, aPr, cPr, aVL, cVL⟩ := x
  obtain ⟨sV, sP, sSt, sSu, sL, sW, sA, sC, sR, sPS, sPr, sVL⟩ := hs
  obtain ⟨rV, rP, rSt, rSu, rL, rW, rA, rC, rR, rPS, rPr, rVL⟩ := hr
  simp only at sV sP sSt sSu sL sW sA sC sR sPS sPr sVL rV rP rSt rSu rL rW rA rC rR rPS rPr rVL
  show Calls Try.prog 8 #[.agg #[.slice aV nV cV, .slice aP nP cP, .slice aSt nSt cSt, .slice aSu nSu cSu, .slice aL nL cL, .slice aW nW cW, .slice aA nA cA, .slice aC nC cC, .slice aR nR cR, .int .i32 at_, .slice aPS nPS cPS, .slice aPr nPr cPr, .slice aVL nVL cVL]] w _
  obtain ⟨W0, hW0⟩ : ∃ W, W = ((w.alloc (.cells #[.slice aV nV cV, .slice aP nP cP, .slice aSt nSt cSt, .slice aSu nSu cSu, .slice aL nL cL, .slice aW nW cW, .slice aA nA cA, .slice aC nC cC, .slice aR nR cR, .int .i32 at_, .slice aPS nPS cPS, .slice aPr nPr cPr, .slice aVL nVL cVL] 25)).alloc (.cells #[.slice none 0 0, .slice none 0 0, .slice none 0 0, .slice none 0 0, .slice none 0 0, .slice none 0 0, .slice none 0 0, .slice none 0 0, .slice none 0 0, .int .i32 0, .slice none 0 0, .slice none 0 0, .slice none 0 0] 25)) := ⟨_, rfl⟩
  have hB0 : Below w.heap.size w W0 := by rw [hW0]; exact ((Below.refl _ _).alloc (Nat.le_refl _) _).alloc (by simp) _
  have hz0 : W0.heap.size = w.heap.size + 2 := by rw [hW0]; simp
  have bc0 : W0.cell? ⟨w.heap.size, 0, none⟩ = some (.slice aV nV cV) := by rw [hW0]; simp [go_sem]
  have bc1 : W0.cell? ⟨w.heap.size, 1, none⟩ = some (.slice aP nP cP) := by rw [hW0]; simp [go_sem]
  have bc2 : W0.cell? ⟨w.heap.size, 2, none⟩ = some (.slice aSt nSt cSt) := by rw [hW0]; simp [go_sem]
  have bc3 : W0.cell? ⟨w.heap.size, 3, none⟩ = some (.slice aSu nSu cSu) := by rw [hW0]; simp [go_sem]
  have bc4 : W0.cell? ⟨w.heap.size, 4, none⟩ = some (.slice aL nL cL) := by rw [hW0]; simp [go_sem]
  have bc5 : W0.cell? ⟨w.heap.size, 5, none⟩ = some (.slice aW nW cW) := by rw [hW0]; simp [go_sem]
  have bc6 : W0.cell? ⟨w.heap.size, 6, none⟩ = some (.slice aA nA cA) := by rw [hW0]; simp [go_sem]
  have bc7 : W0.cell? ⟨w.heap.size, 7, none⟩ = some (.slice aC nC cC) := by rw [hW0]; simp [go_sem]
  have bc8 : W0.cell? ⟨w.heap.size, 8, none⟩ = some (.slice aR nR cR) := by rw [hW0]; simp [go_sem]
  have bc9 : W0.cell? ⟨w.heap.size, 9, none⟩ = some (.int .i32 at_) := by rw [hW0]; simp [go_sem]
  have bc10 : W0.cell? ⟨w.heap.size, 10, none⟩ = some (.slice aPS nPS cPS) := by rw [hW0]; simp [go_sem]
  have bc11 : W0.cell? ⟨w.heap.size, 11, none⟩ = some (.slice aPr nPr cPr) := by rw [hW0]; simp [go_sem]
  have bc12 : W0.cell? ⟨w.heap.size, 12, none⟩ = some (.slice aVL nVL cVL) := by rw [hW0]; simp [go_sem]
  have zc0 : W0.cell? ⟨w.heap.size + 1, 0, none⟩ = some (.slice none 0 0) := by rw [hW0]; simp [go_sem]
  have zc1 : W0.cell? ⟨w.heap.size + 1, 1, none⟩ = some (.slice none 0 0) := by rw [hW0]; simp [go_sem]
  have zc2 : W0.cell? ⟨w.heap.size + 1, 2, none⟩ = some (.slice none 0 0) := by rw [hW0]; simp [go_sem]
  have zc3 : W0.cell? ⟨w.heap.size + 1, 3, none⟩ = some (.slice none 0 0) := by rw [hW0]; simp [go_sem]
  have zc4 : W0.cell? ⟨w.heap.size + 1, 4, none⟩ = some (.slice none 0 0) := by rw [hW0]; simp [go_sem]
  have zc5 : W0.cell? ⟨w.heap.size + 1, 5, none⟩ = some (.slice none 0 0) := by rw [hW0]; simp [go_sem]
  have zc6 : W0.cell? ⟨w.heap.size + 1, 6, none⟩ = some (.slice none 0 0) := by rw [hW0]; simp [go_sem]
  have zc7 : W0.cell? ⟨w.heap.size + 1, 7, none⟩ = some (.slice none 0 0) := by rw [hW0]; simp [go_sem]
  have zc8 : W0.cell? ⟨w.heap.size + 1, 8, none⟩ = some (.slice none 0 0) := by rw [hW0]; simp [go_sem]
  have zc9 : W0.cell? ⟨w.heap.size + 1, 9, none⟩ = some (.int .i32 0) := by rw [hW0]; simp [go_sem]
  have zc10 : W0.cell? ⟨w.heap.size + 1, 10, none⟩ = some (.slice none 0 0) := by rw [hW0]; simp [go_sem]
  have zc11 : W0.cell? ⟨w.heap.size + 1, 11, none⟩ = some (.slice none 0 0) := by rw [hW0]; simp [go_sem]
  have zc12 : W0.cell? ⟨w.heap.size + 1, 12, none⟩ = some (.slice none 0 0) := by rw [hW0]; simp [go_sem]
  have zf0 : W0.frozen? ⟨w.heap.size + 1, 0, none⟩ = false := by rw [hW0]; simp [go_sem]
  have zf1 : W0.frozen? ⟨w.heap.size + 1, 1, none⟩ = false := by rw [hW0]; simp [go_sem]
  have zf2 : W0.frozen? ⟨w.heap.size + 1, 2, none⟩ = false := by rw [hW0]; simp [go_sem]
  have zf3 : W0.frozen? ⟨w.heap.size + 1, 3, none⟩ = false := by rw [hW0]; simp [go_sem]
  have zf4 : W0.frozen? ⟨w.heap.size + 1, 4, none⟩ = false := by rw [hW0]; simp [go_sem]
  have zf5 : W0.frozen? ⟨w.heap.size + 1, 5, none⟩ = false := by rw [hW0]; simp [go_sem]
  have zf6 : W0.frozen? ⟨w.heap.size + 1, 6, none⟩ = false := by rw [hW0]; simp [go_sem]
  have zf7 : W0.frozen? ⟨w.heap.size + 1, 7, none⟩ = false := by rw [hW0]; simp [go_sem]
  have zf8 : W0.frozen? ⟨w.heap.size + 1, 8, none⟩ = false := by rw [hW0]; simp [go_sem]
  have zf9 : W0.frozen? ⟨w.heap.size + 1, 9, none⟩ = false := by rw [hW0]; simp [go_sem]
  have zf10 : W0.frozen? ⟨w.heap.size + 1, 10, none⟩ = false := by rw [hW0]; simp [go_sem]
  have zf11 : W0.frozen? ⟨w.heap.size + 1, 11, none⟩ = false := by rw [hW0]; simp [go_sem]
  have zf12 : W0.frozen? ⟨w.heap.size + 1, 12, none⟩ = false := by rw [hW0]; simp [go_sem]
  have HW := hide hW0
  clear hW0
  have qV := hide (rV.below hB0)
  have qP := hide (rP.below hB0)
  have qSt := hide (rSt.below hB0)
  have qSu := hide (rSu.below hB0)
  have qL := hide (rL.below hB0)
  have qW := hide (rW.below hB0)
  have qA := hide (rA.below hB0)
  have qC := hide (rC.below hB0)
  have qR := hide (rR.below hB0)
  have qPS := hide (rPS.below hB0)
  have qPr := hide (rPr.below hB0)
  have qVL := hide (rVL.below hB0)
  go_enter Try.func8, Try.ntmps8
  go_wp2
  rw [← unhide HW]
  have ZC := hide hz0
  have hzc0 := hide zc0
  have hzf0 := hide zf0
  have hzc1 := hide zc1
  have hzf1 := hide zf1
  have hzc2 := hide zc2
  have hzf2 := hide zf2
  have hzc3 := hide zc3
  have hzf3 := hide zf3
  have hzc4 := hide zc4
  have hzf4 := hide zf4
  have hzc5 := hide zc5
  have hzf5 := hide zf5
  have hzc6 := hide zc6
  have hzf6 := hide zf6
  have hzc7 := hide zc7
  have hzf7 := hide zf7
  have hzc8 := hide zc8
  have hzf8 := hide zf8
  have hzc9 := hide zc9
  have hzf9 := hide zf9
  have hzc10 := hide zc10
  have hzf10 := hide zf10
  have hzc11 := hide zc11
  have hzf11 := hide zf11
  have hzc12 := hide zc12
  have hzf12 := hide zf12
  clear hz0 rV rP rSt rSu rL rW rA rC rR rPS rPr rVL zc0 zf0 zc1 zf1 zc2 zf2 zc3 zf3 zc4 zf4 zc5 zf5 zc6 zf6 zc7 zf7 zc8 zf8 zc9 zf9 zc10 zf10 zc11 zf11 zc12 zf12
  go_region_held3 (fun W => W.cell? ⟨w.heap.size, 0, none⟩ = some (.slice aV nV cV) ∧ W.cell? ⟨w.heap.size, 1, none⟩ = some (.slice aP nP cP) ∧ W.cell? ⟨w.heap.size, 2, none⟩ = some (.slice aSt nSt cSt) ∧ W.cell? ⟨w.heap.size, 3, none⟩ = some (.slice aSu nSu cSu) ∧ W.cell? ⟨w.heap.size, 4, none⟩ = some (.slice aL nL cL) ∧ W.cell? ⟨w.heap.size, 5, none⟩ = some (.slice aW nW cW) ∧ W.cell? ⟨w.heap.size, 6, none⟩ = some (.slice aA nA cA) ∧ W.cell? ⟨w.heap.size, 7, none⟩ = some (.slice aC nC cC) ∧ W.cell? ⟨w.heap.size, 8, none⟩ = some (.slice aR nR cR) ∧ W.cell? ⟨w.heap.size, 9, none⟩ = some (.int .i32 at_) ∧ W.cell? ⟨w.heap.size, 10, none⟩ = some (.slice aPS nPS cPS) ∧ W.cell? ⟨w.heap.size, 11, none⟩ = some (.slice aPr nPr cPr) ∧ W.cell? ⟨w.heap.size, 12, none⟩ = some (.slice aVL nVL cVL)) (first | (simp only [farCell]; assumption) | (apply keepBox; rotate_left; assumption; assumption) | (simp [*]; done))
    (first
      | (go_at_call_of 22 (Value.slice aV nV cV); refine (cloneB_chain W0 aV nV cV fV _ (by first | exact Hid.out (by assumption) | exact Below.drew (Hid.out (by assumption)) | exact Below.drew (Below.drew (Hid.out (by assumption))) | exact Below.refl _ _ | exact Below.drew (Below.refl _ _)) sV (unhide qV)).mono ?_; rintro e w1 ⟨bV, kV, rfl, oV, mV, B1, D1, K1⟩)
      | (go_at_call_of 9 (Value.slice aP nP cP); refine (cloneI_chain W0 aP nP cP fP _ (by first | exact Hid.out (by assumption) | exact Below.drew (Hid.out (by assumption)) | exact Below.drew (Below.drew (Hid.out (by assumption))) | exact Below.refl _ _ | exact Below.drew (Below.refl _ _)) sP (unhide qP)).mono ?_; rintro e w2 ⟨bP, kP, rfl, oP, mP, B2, D2, K2⟩)
      | (go_at_call_of 9 (Value.slice aSt nSt cSt); refine (cloneI_chain W0 aSt nSt cSt fSt _ (by first | exact Hid.out (by assumption) | exact Below.drew (Hid.out (by assumption)) | exact Below.drew (Below.drew (Hid.out (by assumption))) | exact Below.refl _ _ | exact Below.drew (Below.refl _ _)) sSt (unhide qSt)).mono ?_; rintro e w3 ⟨bSt, kSt, rfl, oSt, mSt, B3, D3, K3⟩)
      | (go_at_call_of 9 (Value.slice aSu nSu cSu); refine (cloneI_chain W0 aSu nSu cSu fSu _ (by first | exact Hid.out (by assumption) | exact Below.drew (Hid.out (by assumption)) | exact Below.drew (Below.drew (Hid.out (by assumption))) | exact Below.refl _ _ | exact Below.drew (Below.refl _ _)) sSu (unhide qSu)).mono ?_; rintro e w4 ⟨bSu, kSu, rfl, oSu, mSu, B4, D4, K4⟩)
      | (go_at_call_of 9 (Value.slice aL nL cL); refine (cloneI_chain W0 aL nL cL fL _ (by first | exact Hid.out (by assumption) | exact Below.drew (Hid.out (by assumption)) | exact Below.drew (Below.drew (Hid.out (by assumption))) | exact Below.refl _ _ | exact Below.drew (Below.refl _ _)) sL (unhide qL)).mono ?_; rintro e w5 ⟨bL, kL, rfl, oL, mL, B5, D5, K5⟩)
      | (go_at_call_of 22 (Value.slice aW nW cW); refine (cloneB_chain W0 aW nW cW fW _ (by first | exact Hid.out (by assumption) | exact Below.drew (Hid.out (by assumption)) | exact Below.drew (Below.drew (Hid.out (by assumption))) | exact Below.refl _ _ | exact Below.drew (Below.refl _ _)) sW (unhide qW)).mono ?_; rintro e w6 ⟨bW, kW, rfl, oW, mW, B6, D6, K6⟩)
      | (go_at_call_of 9 (Value.slice aA nA cA); refine (cloneI_chain W0 aA nA cA fA _ (by first | exact Hid.out (by assumption) | exact Below.drew (Hid.out (by assumption)) | exact Below.drew (Below.drew (Hid.out (by assumption))) | exact Below.refl _ _ | exact Below.drew (Below.refl _ _)) sA (unhide qA)).mono ?_; rintro e w7 ⟨bA, kA, rfl, oA, mA, B7, D7, K7⟩)
      | (go_at_call_of 9 (Value.slice aC nC cC); refine (cloneI_chain W0 aC nC cC fC _ (by first | exact Hid.out (by assumption) | exact Below.drew (Hid.out (by assumption)) | exact Below.drew (Below.drew (Hid.out (by assumption))) | exact Below.refl _ _ | exact Below.drew (Below.refl _ _)) sC (unhide qC)).mono ?_; rintro e w8 ⟨bC, kC, rfl, oC, mC, B8, D8, K8⟩)
      | (go_at_call_of 9 (Value.slice aR nR cR); refine (cloneI_chain W0 aR nR cR fR _ (by first | exact Hid.out (by assumption) | exact Below.drew (Hid.out (by assumption)) | exact Below.drew (Below.drew (Hid.out (by assumption))) | exact Below.refl _ _ | exact Below.drew (Below.refl _ _)) sR (unhide qR)).mono ?_; rintro e w9 ⟨bR, kR, rfl, oR, mR, B9, D9, K9⟩)
      | (go_at_call_of 9 (Value.slice aPS nPS cPS); refine (cloneI_chain W0 aPS nPS cPS fPS _ (by first | exact Hid.out (by assumption) | exact Below.drew (Hid.out (by assumption)) | exact Below.drew (Below.drew (Hid.out (by assumption))) | exact Below.refl _ _ | exact Below.drew (Below.refl _ _)) sPS (unhide qPS)).mono ?_; rintro e w10 ⟨bPS, kPS, rfl, oPS, mPS, B10, D10, K10⟩)
      | (go_at_call_of 9 (Value.slice aPr nPr cPr); refine (cloneI_chain W0 aPr nPr cPr fPr _ (by first | exact Hid.out (by assumption) | exact Below.drew (Hid.out (by assumption)) | exact Below.drew (Below.drew (Hid.out (by assumption))) | exact Below.refl _ _ | exact Below.drew (Below.refl _ _)) sPr (unhide qPr)).mono ?_; rintro e w11 ⟨bPr, kPr, rfl, oPr, mPr, B11, D11, K11⟩)
      | (go_at_call_of 9 (Value.slice aVL nVL cVL); refine (cloneI_chain W0 aVL nVL cVL fVL _ (by first | exact Hid.out (by assumption) | exact Below.drew (Hid.out (by assumption)) | exact Below.drew (Below.drew (Hid.out (by assumption))) | exact Below.refl _ _ | exact Below.drew (Below.refl _ _)) sVL (unhide qVL)).mono ?_; rintro e w12 ⟨bVL, kVL, rfl, oVL, mVL, B12, D12, K12⟩; have rc0 := laterCell (unhide D12) (unhide hzc0); have rc1 := laterCell (unhide D12) (unhide hzc1); have rc2 := laterCell (unhide D12) (unhide hzc2); have rc3 := laterCell (unhide D12) (unhide hzc3); have rc4 := laterCell (unhide D12) (unhide hzc4); have rc5 := laterCell (unhide D12) (unhide hzc5); have rc6 := laterCell (unhide D12) (unhide hzc6); have rc7 := laterCell (unhide D12) (unhide hzc7); have rc8 := laterCell (unhide D12) (unhide hzc8); have rc9 := laterCell (unhide D12) (unhide hzc9); have rc10 := laterCell (unhide D12) (unhide hzc10); have rc11 := laterCell (unhide D12) (unhide hzc11); have rc12 := laterCell (unhide D12) (unhide hzc12); have rf0 := laterFrozen (unhide D12) (by rw [unhide ZC]; omega) (unhide hzf0); have rf1 := laterFrozen (unhide D12) (by rw [unhide ZC]; omega) (unhide hzf1); have rf2 := laterFrozen (unhide D12) (by rw [unhide ZC]; omega) (unhide hzf2); have rf3 := laterFrozen (unhide D12) (by rw [unhide ZC]; omega) (unhide hzf3); have rf4 := laterFrozen (unhide D12) (by rw [unhide ZC]; omega) (unhide hzf4); have rf5 := laterFrozen (unhide D12) (by rw [unhide ZC]; omega) (unhide hzf5); have rf6 := laterFrozen (unhide D12) (by rw [unhide ZC]; omega) (unhide hzf6); have rf7 := laterFrozen (unhide D12) (by rw [unhide ZC]; omega) (unhide hzf7); have rf8 := laterFrozen (unhide D12) (by rw [unhide ZC]; omega) (unhide hzf8); have rf9 := laterFrozen (unhide D12) (by rw [unhide ZC]; omega) (unhide hzf9); have rf10 := laterFrozen (unhide D12) (by rw [unhide ZC]; omega) (unhide hzf10); have rf11 := laterFrozen (unhide D12) (by rw [unhide ZC]; omega) (unhide hzf11); have rf12 := laterFrozen (unhide D12) (by rw [unhide ZC]; omega) (unhide hzf12)))
  have hch := hide ((((((((((((((Chg.refl (fun k => k = w.heap.size + 1) w12).setCell (p := ⟨w.heap.size + 1, 0, none⟩) (fun _ => rfl) (.slice bV nV kV)).setCell (p := ⟨w.heap.size + 1, 1, none⟩) (fun _ => rfl) (.slice bP nP kP)).setCell (p := ⟨w.heap.size + 1, 2, none⟩) (fun _ => rfl) (.slice bSt nSt kSt)).setCell (p := ⟨w.heap.size + 1, 3, none⟩) (fun _ => rfl) (.slice bSu nSu kSu)).setCell (p := ⟨w.heap.size + 1, 4, none⟩) (fun _ => rfl) (.slice bL nL kL)).setCell (p := ⟨w.heap.size + 1, 5, none⟩) (fun _ => rfl) (.slice bW nW kW)).setCell (p := ⟨w.heap.size + 1, 6, none⟩) (fun _ => rfl) (.slice bA nA kA)).setCell (p := ⟨w.heap.size + 1, 7, none⟩) (fun _ => rfl) (.slice bC nC kC)).setCell (p := ⟨w.heap.size + 1, 8, none⟩) (fun _ => rfl) (.slice bR nR kR)).setCell (p := ⟨w.heap.size + 1, 9, none⟩) (fun _ => rfl) (.int .i32 at_)).setCell (p := ⟨w.heap.size + 1, 10, none⟩) (fun _ => rfl) (.slice bPS nPS kPS)).setCell (p := ⟨w.heap.size + 1, 11, none⟩) (fun _ => rfl) (.slice bPr nPr kPr)).setCell (p := ⟨w.heap.size + 1, 12, none⟩) (fun _ => rfl) (.slice bVL nVL kVL))
  go_wp2
  refine bodyPost_ret (v := .agg #[.slice bV nV kV, .slice bP nP kP, .slice bSt nSt kSt, .slice bSu nSu kSu, .slice bL nL kL, .slice bW nW kW, .slice bA nA kA, .slice bC nC kC, .slice bR nR kR, .int .i32 at_, .slice bPS nPS kPS, .slice bPr nPr kPr, .slice bVL nVL kVL]) (by simp [results, Try.results8, go_sem, rc0, rc1, rc2, rc3, rc4, rc5, rc6, rc7, rc8, rc9, rc10, rc11, rc12]) rfl ⟨⟨bV, kV, bP, kP, bSt, kSt, bSu, kSu, bL, kL, bW, kW, bA, kA, bC, kC, bR, kR, bPS, kPS, bPr, kPr, bVL, kVL⟩, rfl, ?_, ?_⟩
  · have hc := unhide hch
    have hs0 := unhide ZC
    have hsz := hc.size
    have hs1 : W0.heap.size ≤ w1.heap.size := B1.size
    have hs2 : w1.heap.size ≤ w2.heap.size := B2.size
    have hs3 : w2.heap.size ≤ w3.heap.size := B3.size
    have hs4 : w3.heap.size ≤ w4.heap.size := B4.size
    have hs5 : w4.heap.size ≤ w5.heap.size := B5.size
    have hs6 : w5.heap.size ≤ w6.heap.size := B6.size
    have hs7 : w6.heap.size ≤ w7.heap.size := B7.size
    have hs8 : w7.heap.size ≤ w8.heap.size := B8.size
    have hs9 : w8.heap.size ≤ w9.heap.size := B9.size
    have hs10 : w9.heap.size ≤ w10.heap.size := B10.size
    have hs11 : w10.heap.size ≤ w11.heap.size := B11.size
    have hs12 : w11.heap.size ≤ w12.heap.size := B12.size
    have FV := (((((((((((oV.below B2).below B3).below B4).below B5).below B6).below B7).below B8).below B9).below B10).below B11).below B12).chg hc (fun y hy e => by have h1 : W0.heap.size ≤ y.block := (K1 y hy).1; omega)
    have FP := ((((((((((oP.below B3).below B4).below B5).below B6).below B7).below B8).below B9).below B10).below B11).below B12).chg hc (fun y hy e => by have h1 : w1.heap.size ≤ y.block := (K2 y hy).1; omega)
    have FSt := (((((((((oSt.below B4).below B5).below B6).below B7).below B8).below B9).below B10).below B11).below B12).chg hc (fun y hy e => by have h1 : w2.heap.size ≤ y.block := (K3 y hy).1; omega)
    have FSu := ((((((((oSu.below B5).below B6).below B7).below B8).below B9).below B10).below B11).below B12).chg hc (fun y hy e => by have h1 : w3.heap.size ≤ y.block := (K4 y hy).1; omega)
    have FL := (((((((oL.below B6).below B7).below B8).below B9).below B10).below B11).below B12).chg hc (fun y hy e => by have h1 : w4.heap.size ≤ y.block := (K5 y hy).1; omega)
    have FW := ((((((oW.below B7).below B8).below B9).below B10).below B11).below B12).chg hc (fun y hy e => by have h1 : w5.heap.size ≤ y.block := (K6 y hy).1; omega)
    have FA := (((((oA.below B8).below B9).below B10).below B11).below B12).chg hc (fun y hy e => by have h1 : w6.heap.size ≤ y.block := (K7 y hy).1; omega)
    have FC := ((((oC.below B9).below B10).below B11).below B12).chg hc (fun y hy e => by have h1 : w7.heap.size ≤ y.block := (K8 y hy).1; omega)
    have FR := (((oR.below B10).below B11).below B12).chg hc (fun y hy e => by have h1 : w8.heap.size ≤ y.block := (K9 y hy).1; omega)
    have FPS := ((oPS.below B11).below B12).chg hc (fun y hy e => by have h1 : w9.heap.size ≤ y.block := (K10 y hy).1; omega)
    have FPr := (oPr.below B12).chg hc (fun y hy e => by have h1 : w10.heap.size ≤ y.block := (K11 y hy).1; omega)
    have FVL := oVL.chg hc (fun y hy e => by have h1 : w11.heap.size ≤ y.block := (K12 y hy).1; omega)
    exact ⟨FV, FP, FSt, FSu, FL, FW, FA, FC, FR, FPS, FPr, FVL, mV, mP, mSt, mSu, mL, mW, mA, mC, mR, mPS, mPr, mVL, W0.heap.size, w1.heap.size, w2.heap.size, w3.heap.size, w4.heap.size, w5.heap.size, w6.heap.size, w7.heap.size, w8.heap.size, w9.heap.size, w10.heap.size, w11.heap.size, w12.heap.size, by omega, hs1, hs2, hs3, hs4, hs5, hs6, hs7, hs8, hs9, hs10, hs11, hs12, hsz, K1, K2, K3, K4, K5, K6, K7, K8, K9, K10, K11, K12⟩
  · exact (hB0.trans ((unhide D12).mono hB0.size)).trans ((unhide hch).below (by have := (unhide D12).size; have := unhide ZC; omega) (fun k hk => by omega))

end Go.Proofs.Qxb6605408a
