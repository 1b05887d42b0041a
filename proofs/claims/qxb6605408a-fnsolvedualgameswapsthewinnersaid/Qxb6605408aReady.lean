import Derived.Test.Qxb6605408aState
namespace Go.Proofs.Qxb6605408a
open Go.RowKit
set_option linter.unusedVariables false

/-- is v among the first i targets -/
def seenTo (ft : Nat → Int) : Nat → Nat → Bool
  | 0, _ => false
  | i + 1, v => seenTo ft i v || decide (ft i = (v : Int))
theorem seenTo_iff (ft : Nat → Int) (v : Nat) : ∀ i, seenTo ft i v = true ↔ ∃ j, j < i ∧ ft j = v
  | 0 => by simp [seenTo]
  | i + 1 => by
    simp only [seenTo, Bool.or_eq_true, seenTo_iff ft v i, decide_eq_true_eq]
    constructor
    · rintro (⟨j, hj, e⟩ | e)
      · exact ⟨j, by omega, e⟩
      · exact ⟨i, by omega, e⟩
    · rintro ⟨j, hj, e⟩
      by_cases h : j = i
      · subst h; exact .inr e
      · exact .inl ⟨j, by omega, e⟩

/-- k new numbers are unused -/
def Unused (d : SD) (k : Int) : Prop := ∀ m : Int, 1 ≤ m → m ≤ k → ∀ v, v < d.nV → d.fA v ≠ wrap32 (d.at_ + m) ∧ d.fC v ≠ wrap32 (d.at_ + m)
/-- different vertices of the game -/
structure TargetsOk (d : SD) (nt : Nat) (ft : Nat → Int) (dp : Int) : Prop where
  lo : ∀ i, i < nt → 0 ≤ ft i
  hi : ∀ i, i < nt → ft i < d.nV
  lev : ∀ i, i < nt → dp ≤ d.fL (ft i).toNat
  diff : ∀ i j, i < j → j < nt → ft i ≠ ft j
structure AttractOk (d : SD) (nt : Nat) (ft : Nat → Int) (dp k : Int) : Prop where
  st : StateOk d
  un : Unused d k
  tg : TargetsOk d nt ft dp

set_option maxRecDepth 100000 in
set_option maxHeartbeats 8000000 in
theorem ready_any (d : SD) (x : SA) (at1 : Option Addr) (nt ct : Nat) (ft : Nat → Int) (dp fr : Int) (w : World) (hs : SSmall d) (hr : SRows w d x) (ht : nt ≤ 1048576) (rt : Row w at1 nt (fun i => .int .i32 (ft i))) (it : I32 ft)
    (iS : I32 d.fSt) (iU : I32 d.fSu) (iP : I32 d.fPS) (iR : I32 d.fPr) (hf0 : 1 ≤ fr) (hf1 : fr ≤ 2) :
    Calls Try.prog 10 #[.agg (vals d x), .slice at1 nt ct, .int .i32 dp, .int .i32 fr] w fun e w' => Says (AttractOk d nt ft dp fr) e ∧ Below w.heap.size w w' := by
  have hstate := hide (fun W h => state_any d x W hs h iS iU iP iR)
  have hr0 := hide hr
  have hnV := hs.sV
  obtain ⟨nV, fV, nP, fP, nSt, fSt, nSu, fSu, nL, fL, nW, fW, nA, fA, nC, fC, nR, fR, at_, nPS, fPS, nPr, fPr, nVL, fVL⟩ := d
  obtain ⟨aV, cV, aP, cP, aSt, cSt, aSu, cSu, aL, cL, aW, cW, aA, cA, aC, cC, aR, cR, aPS, cPS, aPr, cPr, aVL, cVL⟩ := x
  obtain ⟨rV, rP, rSt, rSu, rL, rW, rA, rC, rR, rPS, rPr, rVL⟩ := hr
  simp only at rV rP rSt rSu rL rW rA rC rR rPS rPr rVL hnV
  show Calls Try.prog 10 #[.agg #[.slice aV nV cV, .slice aP nP cP, .slice aSt nSt cSt, .slice aSu nSu cSu, .slice aL nL cL, .slice aW nW cW, .slice aA nA cA, .slice aC nC cC, .slice aR nR cR, .int .i32 at_, .slice aPS nPS cPS, .slice aPr nPr cPr, .slice aVL nVL cVL], .slice at1 nt ct, .int .i32 dp, .int .i32 fr] w _
  clear hs iS iU iP iR rV rP rSt rSu rW rR rPS rPr rVL
  have hb0 : Below w.heap.size w (w.alloc (.cells #[.slice aV nV cV, .slice aP nP cP, .slice aSt nSt cSt, .slice aSu nSu cSu, .slice aL nL cL, .slice aW nW cW, .slice aA nA cA, .slice aC nC cC, .slice aR nR cR, .int .i32 at_, .slice aPS nPS cPS, .slice aPr nPr cPr, .slice aVL nVL cVL] 25)) := (Below.refl _ _).alloc (Nat.le_refl _) _
  have qL := rL.below hb0
  have qA := rA.below hb0
  have qC := rC.below hb0
  have qt := rt.below hb0
  have q0 := hide ((unhide hr0).below hb0)
  have HB := hide hb0
  clear rL rA rC rt hb0 hr0
  go_enter Try.func10, Try.ntmps10
  go_wp2_with fail
  refine (unhide hstate _ (unhide q0)).mono ?_
  rintro e w1 ⟨⟨r, rfl, hr1⟩, hb1⟩
  have k4 : w1.cell? ⟨w.heap.size, 4, none⟩ = some (.slice aL nL cL) := laterCell hb1 (by simp [go_sem])
  have k6 : w1.cell? ⟨w.heap.size, 6, none⟩ = some (.slice aA nA cA) := laterCell hb1 (by simp [go_sem])
  have k7 : w1.cell? ⟨w.heap.size, 7, none⟩ = some (.slice aC nC cC) := laterCell hb1 (by simp [go_sem])
  have k9 : w1.cell? ⟨w.heap.size, 9, none⟩ = some (.int .i32 at_) := laterCell hb1 (by simp [go_sem])
  have pL := qL.below hb1
  have pA := qA.below hb1
  have pC := qC.below hb1
  have pt := qt.below hb1
  have HB1 := hide ((unhide HB).trans (hb1.mono (unhide HB).size))
  have HR1 := hide hr1
  clear qL qA qC qt q0 hb1 hr1 HB hstate
  cases r
  · go_wp2
    go_ret
    exact ⟨says_no _, unhide HB1⟩
  have hst := hide (unhide HR1 rfl)
  have eL := (unhide hst).eL.symm
  have eA := (unhide hst).eA.symm
  have eC := (unhide hst).eC.symm
  simp only at eL eA eC
  subst eL
  subst eA
  subst eC
  clear HR1
  go_wp2
  go_loop [11] (fun i => ∃ k : Int, 1 ≤ k ∧ k ≤ fr + 1 ∧ i = .int .i32 k ∧ ∀ m : Int, 1 ≤ m → m < k → ∀ v, v < nV → fA v ≠ wrap32 (at_ + m) ∧ fC v ≠ wrap32 (at_ + m)) (fun i => (fr + 1 - intOf i).toNat)
  case atStart => exact ⟨1, by omega, by omega, rfl, fun m h1 h2 => by omega⟩
  case round =>
    obtain ⟨k, hk0, hk1, rfl, hun⟩ := hrel
    have hun' := hide hun
    clear hun
    by_cases hkl : k ≤ fr
    · obtain ⟨nm, hnm⟩ : ∃ nm, nm = wrap32 (at_ + k) := ⟨_, rfl⟩
      go_wp2
      rw [← hnm]
      have hnm' := hide hnm
      clear hnm
      go_loop [13] (fun i => ∃ v : Nat, v ≤ nV ∧ i = .int .i64 v ∧ ∀ u, u < v → fA u ≠ nm ∧ fC u ≠ nm) (fun i => nV - (intOf i).toNat)
      case atStart => exact ⟨0, Nat.zero_le _, rfl, fun u hu => by omega⟩
      case round =>
        obtain ⟨v, hv, rfl, hno⟩ := hrel
        have hno' := hide hno
        clear hno
        by_cases hvl : v < nV
        · obtain ⟨bA, oA, haA, hbA, hcA⟩ := pA (by omega)
          obtain ⟨bC, oC, haC, hbC, hcC⟩ := pC (by omega)
          have gA : w1.cell? ⟨bA, oA + v, none⟩ = some (.int .i32 (fA v)) := hcA v hvl
          have gC : w1.cell? ⟨bC, oC + v, none⟩ = some (.int .i32 (fC v)) := hcC v hvl
          have hvi : (v : Int) < (nV : Int) := by omega
          clear hcA hcC
          subst haA
          subst haC
          by_cases c1 : fA v = nm
          · have d1 : (fA v == nm) = true := by rw [beq_iff_eq]; exact c1
            clear c1
            go_wp2
            go_ret
            exact ⟨says_no _, unhide HB1⟩
          · have d1 : (fA v == nm) = false := by rw [beq_eq_false_iff_ne]; exact c1
            by_cases c2 : fC v = nm
            · have d2 : (fC v == nm) = true := by rw [beq_iff_eq]; exact c2
              clear c2
              go_wp2
              go_ret
              exact ⟨says_no _, unhide HB1⟩
            · have d2 : (fC v == nm) = false := by rw [beq_eq_false_iff_ne]; exact c2
              have H12 := hide (And.intro c1 c2)
              clear c1 c2
              go_wp2
              go_round
              case rel => exact ⟨v + 1, by omega, by go_num, fun u hu => by
                by_cases e : u = v
                · subst e; exact unhide H12
                · exact unhide hno' u (by omega)⟩
              case measure => simp [intOf]; omega
        · have hve : v = nV := by omega
          subst hve
          go_wp2
          go_round
          case rel => exact ⟨k + 1, by omega, by omega, by go_num, fun m h1 h2 => by
            by_cases e : m = k
            · subst e; rw [← unhide hnm']; exact unhide hno'
            · exact unhide hun' m h1 (by omega)⟩
          case measure => simp [intOf]; omega
    · have hke : k = fr + 1 := by omega
      subst hke
      have mk := make22 nV (by omega)
      have hrs : (w1.alloc (.cells (madeCells #[.bool false] nV) 4)).rowIs w1.heap.size 4 nV (fun v => .bool (seenTo ft 0 v)) := World.rowIs_made w1 (.bool false) nV 4
      have HRS := hide hrs
      have hb2 : Below w1.heap.size w1 (w1.alloc (.cells (madeCells #[.bool false] nV) 4)) := (Below.refl _ _).alloc (Nat.le_refl _) _
      have HB2 := hide hb2
      clear hrs hb2
      go_wp2
      clear mk
      go_loopw [58] (fun i wr => ∃ j : Nat, j ≤ nt ∧ i = .int .i64 j ∧ (∀ m, m < j → 0 ≤ ft m ∧ ft m < nV ∧ dp ≤ fL (ft m).toNat) ∧ (∀ m p, m < p → p < j → ft m ≠ ft p) ∧ wr.rowIs w1.heap.size 4 nV (fun v => .bool (seenTo ft j v)) ∧ Below w1.heap.size w1 wr) (fun i _ => nt - (intOf i).toNat)
      case atStart => exact ⟨0, Nat.zero_le _, rfl, fun m hm => by omega, fun m p h1 h2 => by omega, unhide HRS, unhide HB2⟩
      case round =>
        clear HRS HB2
        obtain ⟨j, hj, rfl, hal, hdf, hrow, hbr⟩ := hrel
        have hal' := hide hal
        have hdf' := hide hdf
        clear hal hdf
        by_cases hjl : j < nt
        · obtain ⟨bt, ot, hat, hbt, hct⟩ := pt (by omega)
          have gt : wr.cell? ⟨bt, ot + j, none⟩ = some (.int .i32 (ft j)) := (hbr.cell (p := ⟨bt, ot + j, none⟩) hbt).trans (hct j hjl)
          have itj := it j
          have g4 : wr.cell? ⟨w.heap.size, 4, none⟩ = some (.slice aL nV cL) := laterCell hbr k4
          have hji : (j : Int) < (nt : Int) := by omega
          clear hct
          subst hat
          by_cases c1 : ft j < 0
          · have d1 : decide (ft j < 0) = true := by simpa using c1
            go_wp2
            go_ret
            exact ⟨says_no _, (unhide HB1).trans (hbr.mono (unhide HB1).size)⟩
          have d1 : decide (ft j < 0) = false := by simpa using c1
          by_cases c2 : (nV : Int) ≤ ft j
          · have d2 : decide ((nV : Int) ≤ ft j) = true := by simpa using c2
            go_wp2
            go_ret
            exact ⟨says_no _, (unhide HB1).trans (hbr.mono (unhide HB1).size)⟩
          have d2 : decide ((nV : Int) ≤ ft j) = false := by simpa using c2
          obtain ⟨q, hq⟩ : ∃ q : Nat, ft j = q := ⟨(ft j).toNat, by omega⟩
          have hqn : q < nV := by omega
          have gs : wr.cell? ⟨w1.heap.size, q, none⟩ = some (.bool (seenTo ft j q)) := hrow.cell hqn
          have gf : wr.frozen? ⟨w1.heap.size, q, none⟩ = false := hrow.frozen q
          rw [hq] at gt d1 d2 itj
          have hqi : (q : Int) < (nV : Int) := by omega
          have hq' := hide hq
          clear hq c1 c2
          cases hseen : seenTo ft j q
          · rw [hseen] at gs
            obtain ⟨bL, oL, haL, hbL, hcL⟩ := pL (by omega)
            have gL : wr.cell? ⟨bL, oL + q, none⟩ = some (.int .i32 (fL q)) := (hbr.cell (p := ⟨bL, oL + q, none⟩) hbL).trans (hcL q hqn)
            clear hcL
            subst haL
            have hs' := hide hseen
            clear hseen
            by_cases c4 : fL q < dp
            · have d4 : decide (fL q < dp) = true := by simpa using c4
              go_wp2
              go_ret
              exact ⟨says_no _, (unhide HB1).trans (hbr.mono (unhide HB1).size)⟩
            · have d4 : decide (fL q < dp) = false := by simpa using c4
              go_wp2
              go_roundw
              case rel =>
                refine ⟨j + 1, by omega, by go_num, fun m hm => ?_, fun m p h1 h2 => ?_, ?_, hbr.setCell (p := ⟨w1.heap.size, q, none⟩) (Nat.le_refl _) _⟩
                · by_cases e : m = j
                  · subst e
                    rw [unhide hq']
                    exact ⟨by omega, by omega, by simp; omega⟩
                  · exact unhide hal' m (by omega)
                · by_cases e : p = j
                  · subst e
                    intro he
                    rw [unhide hq'] at he
                    have := (seenTo_iff ft q p).2 ⟨m, h1, he⟩
                    rw [unhide hs'] at this
                    cases this
                  · exact unhide hdf' m p h1 (by omega)
                · refine (hrow.set q _).congr (fun v hv => ?_)
                  by_cases e : v = q
                  · subst e
                    rw [if_pos rfl]
                    simp [seenTo, unhide hq']
                  · rw [if_neg e]
                    have : ¬ ((q : Int) = (v : Int)) := fun h => e (by omega)
                    simp [seenTo, unhide hq', this]
              case measure => simp [intOf]; omega
          · rw [hseen] at gs
            go_wp2
            go_ret
            exact ⟨says_no _, (unhide HB1).trans (hbr.mono (unhide HB1).size)⟩
        · have hje : j = nt := by omega
          subst hje
          go_wp2
          go_ret
          refine ⟨says_yes ⟨unhide hst, fun m h1 h2 => unhide hun' m h1 (by omega), ⟨fun i hi => (unhide hal' i hi).1, fun i hi => (unhide hal' i hi).2.1, fun i hi => (unhide hal' i hi).2.2, unhide hdf'⟩⟩, (unhide HB1).trans (hbr.mono (unhide HB1).size)⟩

end Go.Proofs.Qxb6605408a
