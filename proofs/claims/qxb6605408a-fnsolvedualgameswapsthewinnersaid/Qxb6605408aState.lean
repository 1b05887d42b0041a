import Derived.Test.Qxb6605408aSolver
import Derived.Test.Qxb6605408aTrans
namespace Go.Proofs.Qxb6605408a
open Go.RowKit
set_option linter.unusedVariables false

def toN (f : Nat → Int) : Nat → Nat := fun i => (f i).toNat

/-- the solver's documented shape -/
structure StateOk (d : SD) : Prop where
  eL : d.nL = d.nV
  eA : d.nA = d.nV
  eC : d.nC = d.nV
  eR : d.nR = d.nV
  eS : EdgesOk d.nV d.nSt d.fSt d.nSu d.fSu
  eP : EdgesOk d.nV d.nPS d.fPS d.nPr d.fPr
  tr : Transp d.nV (toN d.fSt) (toN d.fSu) (toN d.fPS) (toN d.fPr)

def StateSays (d : SD) (e : Ending) : Prop := ∃ r : Bool, e = .returned (.tuple #[.int .i64 d.nV, .bool r]) ∧ (r = true → StateOk d)
theorem state_no (d : SD) : StateSays d (.returned (.tuple #[.int .i64 d.nV, .bool false])) := ⟨false, rfl, fun h => by cases h⟩

theorem part_of {w : World} {a : Option Addr} {n nt : Nat} {fs ft : Nat → Int} {ns : Nat} (h : EdgesOk n ns fs nt ft) (hr : Row w a nt (fun i => .int .i32 (ft i))) : Part w a (toN fs 0) (toN fs n) (toN ft) := by
  intro h0
  have h1 := h.lo
  have h2 := h.hi
  unfold toN at h0
  obtain ⟨b, off, ha, hb, hc⟩ := hr (by omega)
  refine ⟨b, off, ha, hb, fun e he1 he2 => ?_⟩
  unfold toN at he1 he2
  have h3 := h.to e (by omega) (by omega)
  rw [hc e (by omega)]
  have : ((toN ft e : Nat) : Int) = ft e := by unfold toN; omega
  rw [this]

theorem row_toN {w : World} {a : Option Addr} {n nt : Nat} {fs ft : Nat → Int} {ns : Nat} (h : EdgesOk n ns fs nt ft) (hr : Row w a ns (fun i => .int .i32 (fs i))) : Row w a (n + 1) (fun i => .int .i32 (toN fs i : Nat)) := by
  intro h0
  have hl := h.len
  obtain ⟨b, off, ha, hb, hc⟩ := hr (by omega)
  refine ⟨b, off, ha, hb, fun j hj => ?_⟩
  rw [hc j (by omega)]
  have h1 := mono_le h.mono (show 0 ≤ j by omega) (by omega)
  have h2 := h.lo
  have : ((toN fs j : Nat) : Int) = fs j := by unfold toN; omega
  show some (Value.int IntKind.i32 (fs j)) = some (Value.int IntKind.i32 ((toN fs j : Nat) : Int))
  rw [this]

theorem trans_of (n : Nat) (aS : Option Addr) (nS cS : Nat) (fs : Nat → Int) (aD : Option Addr) (nD cD : Nat) (fd : Nat → Int) (aP : Option Addr) (nP cP : Nat) (fp : Nat → Int) (aR : Option Addr) (nR cR : Nat) (fr : Nat → Int) (w : World)
    (hn : n ≤ 1048576) (hD : nD ≤ 1048576) (hR : nR ≤ 1048576) (h1 : EdgesOk n nS fs nD fd) (h2 : EdgesOk n nP fp nR fr) (rS : Row w aS nS (fun i => .int .i32 (fs i))) (rD : Row w aD nD (fun i => .int .i32 (fd i))) (rP : Row w aP nP (fun i => .int .i32 (fp i))) (rR : Row w aR nR (fun i => .int .i32 (fr i))) :
    Calls Try.prog 28 #[.int .i64 n, .slice aS nS cS, .slice aD nD cD, .slice aP nP cP, .slice aR nR cR] w fun e w' => Says (Transp n (toN fs) (toN fd) (toN fp) (toN fr)) e ∧ Below w.heap.size w w' := by
  have hS := row_toN h1 rS
  have hP := row_toN h2 rP
  have pD := part_of h1 rD
  have pR := part_of h2 rR
  have l1 := h1.len
  have l2 := h2.len
  subst l1
  subst l2
  have m1 := h1.mono
  have m2 := h2.mono
  have lo1 := h1.lo
  have lo2 := h2.lo
  have hi1 := h1.hi
  have hi2 := h2.hi
  refine trans_any n aS cS (toN fs) aD nD cD (toN fd) aP cP (toN fp) aR nR cR (toN fr) w hn hS hP pD pR (fun v hv => ?_) (fun v hv => ?_) ?_ hD ?_ hR (fun e he1 he2 => ?_) (fun e he1 he2 => ?_)
  · have := m1 v hv; unfold toN; omega
  · have := m2 v hv; unfold toN; omega
  · unfold toN; omega
  · unfold toN; omega
  · unfold toN at he1 he2
    have := h1.to e (by omega) (by omega)
    unfold toN; omega
  · unfold toN at he1 he2
    have := h2.to e (by omega) (by omega)
    unfold toN; omega

set_option maxRecDepth 100000 in
set_option maxHeartbeats 8000000 in
theorem state_any (d : SD) (x : SA) (w : World) (hs : SSmall d) (hr : SRows w d x) (iS : I32 d.fSt) (iU : I32 d.fSu) (iP : I32 d.fPS) (iR : I32 d.fPr) :
    Calls Try.prog 23 #[.agg (vals d x)] w fun e w' => StateSays d e ∧ Below w.heap.size w w' := by
  obtain ⟨nV, fV, nP, fP, nSt, fSt, nSu, fSu, nL, fL, nW, fW, nA, fA, nC, fC, nR, fR, at_, nPS, fPS, nPr, fPr, nVL, fVL⟩ := d
  obtain ⟨aV, cV, aP, cP, aSt, cSt, aSu, cSu, aL, cL, aW, cW, aA, cA, aC, cC, aR, cR, aPS, cPS, aPr, cPr, aVL, cVL⟩ := x
  obtain ⟨sV, sP, sSt, sSu, sL, sW, sA, sC, sR, sPS, sPr, sVL⟩ := hs
  obtain ⟨rV, rP, rSt, rSu, rL, rW, rA, rC, rR, rPS, rPr, rVL⟩ := hr
  simp only at sV sP sSt sSu sL sW sA sC sR sPS sPr sVL rV rP rSt rSu rL rW rA rC rR rPS rPr rVL iS iU iP iR
  show Calls Try.prog 23 #[.agg #[.slice aV nV cV, .slice aP nP cP, .slice aSt nSt cSt, .slice aSu nSu cSu, .slice aL nL cL, .slice aW nW cW, .slice aA nA cA, .slice aC nC cC, .slice aR nR cR, .int .i32 at_, .slice aPS nPS cPS, .slice aPr nPr cPr, .slice aVL nVL cVL]] w _
  clear sW sVL rV rP rL rW rA rC rR rVL
  have hb0 : Below w.heap.size w (w.alloc (.cells #[.slice aV nV cV, .slice aP nP cP, .slice aSt nSt cSt, .slice aSu nSu cSu, .slice aL nL cL, .slice aW nW cW, .slice aA nA cA, .slice aC nC cC, .slice aR nR cR, .int .i32 at_, .slice aPS nPS cPS, .slice aPr nPr cPr, .slice aVL nVL cVL] 25)) := (Below.refl _ _).alloc (Nat.le_refl _) _
  by_cases hL : ¬ nL = nV
  · have dL : ((nL : Int) != (nV : Int)) = true := by rw [bne_iff_ne]; omega
    go_enter Try.func23, Try.ntmps23
    go_wp2
    go_ret2
    exact ⟨state_no _, hb0⟩
  have dL : ((nL : Int) != (nV : Int)) = false := by rw [bne_eq_false_iff_eq]; omega
  by_cases hA : ¬ nA = nV
  · have dA : ((nA : Int) != (nV : Int)) = true := by rw [bne_iff_ne]; omega
    go_enter Try.func23, Try.ntmps23
    go_wp2
    go_ret2
    exact ⟨state_no _, hb0⟩
  have dA : ((nA : Int) != (nV : Int)) = false := by rw [bne_eq_false_iff_eq]; omega
  by_cases hC : ¬ nC = nV
  · have dC : ((nC : Int) != (nV : Int)) = true := by rw [bne_iff_ne]; omega
    go_enter Try.func23, Try.ntmps23
    go_wp2
    go_ret2
    exact ⟨state_no _, hb0⟩
  have dC : ((nC : Int) != (nV : Int)) = false := by rw [bne_eq_false_iff_eq]; omega
  by_cases hR : ¬ nR = nV
  · have dR : ((nR : Int) != (nV : Int)) = true := by rw [bne_iff_ne]; omega
    go_enter Try.func23, Try.ntmps23
    go_wp2
    go_ret2
    exact ⟨state_no _, hb0⟩
  have dR : ((nR : Int) != (nV : Int)) = false := by rw [bne_eq_false_iff_eq]; omega
  have q1 := rSt.below hb0
  have q2 := rSu.below hb0
  have q3 := rPS.below hb0
  have q4 := rPr.below hb0
  have HL := hide (And.intro hL (And.intro hA (And.intro hC hR)))
  have HB := hide hb0
  clear hL hA hC hR hb0
  go_enter Try.func23, Try.ntmps23
  go_wp2_with fail
  refine (edges_any nV aSt nSt cSt fSt aSu nSu cSu fSu _ sV sSt sSu iS iU q1 q2).mono ?_
  rintro e w1 ⟨⟨r, rfl, hr1⟩, hb1⟩
  have k2 : w1.cell? ⟨w.heap.size, 2, none⟩ = some (.slice aSt nSt cSt) := laterCell hb1 (by simp [go_sem])
  have k3 : w1.cell? ⟨w.heap.size, 3, none⟩ = some (.slice aSu nSu cSu) := laterCell hb1 (by simp [go_sem])
  have k10 : w1.cell? ⟨w.heap.size, 10, none⟩ = some (.slice aPS nPS cPS) := laterCell hb1 (by simp [go_sem])
  have k11 : w1.cell? ⟨w.heap.size, 11, none⟩ = some (.slice aPr nPr cPr) := laterCell hb1 (by simp [go_sem])
  have q3' := q3.below hb1
  have q4' := q4.below hb1
  have q1' := q1.below hb1
  have q2' := q2.below hb1
  have HR1 := hide hr1
  have HB1 := hide hb1
  clear q1 q2 q3 q4 hr1 hb1
  cases r
  · go_wp2
    go_ret2
    exact ⟨state_no _, (unhide HB).trans ((unhide HB1).mono (unhide HB).size)⟩
  go_wp2_with fail
  refine (edges_any nV aPS nPS cPS fPS aPr nPr cPr fPr _ sV sPS sPr iP iR q3' q4').mono ?_
  rintro e w2 ⟨⟨r, rfl, hr2⟩, hb2⟩
  have m2 : w2.cell? ⟨w.heap.size, 2, none⟩ = some (.slice aSt nSt cSt) := laterCell hb2 k2
  have m3 : w2.cell? ⟨w.heap.size, 3, none⟩ = some (.slice aSu nSu cSu) := laterCell hb2 k3
  have m10 : w2.cell? ⟨w.heap.size, 10, none⟩ = some (.slice aPS nPS cPS) := laterCell hb2 k10
  have m11 : w2.cell? ⟨w.heap.size, 11, none⟩ = some (.slice aPr nPr cPr) := laterCell hb2 k11
  have p1 := q1'.below hb2
  have p2 := q2'.below hb2
  have p3 := q3'.below hb2
  have p4 := q4'.below hb2
  have HR2 := hide hr2
  have HB2 := hide ((unhide HB).trans (((unhide HB1).trans (hb2.mono (unhide HB1).size)).mono (unhide HB).size))
  clear q1' q2' q3' q4' hr2 hb2 k2 k3 k10 k11
  cases r
  · go_wp2
    go_ret2
    exact ⟨state_no _, unhide HB2⟩
  go_wp2_with fail
  refine (trans_of nV aSt nSt cSt fSt aSu nSu cSu fSu aPS nPS cPS fPS aPr nPr cPr fPr _ sV sSu sPr (by first | exact unhide HR1 | exact unhide HR1 trivial) (by first | exact unhide HR2 | exact unhide HR2 trivial) p1 p2 p3 p4).mono ?_
  rintro e w3 ⟨⟨r, rfl, hr3⟩, hb3⟩
  have HR3 := hide hr3
  have HB3 := hide hb3
  clear p1 p2 p3 p4 hr3 hb3
  go_wp2
  go_ret2
  refine ⟨⟨r, rfl, fun hrt => ?_⟩, (unhide HB2).trans ((unhide HB3).mono (unhide HB2).size)⟩
  obtain ⟨e1, e2, e3, e4⟩ := unhide HL
  exact ⟨by simp only; omega, by simp only; omega, by simp only; omega, by simp only; omega, by first | exact unhide HR1 | exact unhide HR1 trivial, by first | exact unhide HR2 | exact unhide HR2 trivial, unhide HR3 hrt⟩

end Go.Proofs.Qxb6605408a
