import Derived.Test.Qxb6605408aTooBigA
import Derived.Test.Qxb6605408aTooBigB
import Derived.Test.Qxb6605408aTooBigC
namespace Go.Proofs.Qxb6605408a
open Go.RowKit
set_option linter.unusedVariables false

def TooBigSays (d : SD) (nt : Nat) (e : Ending) : Prop := ∃ r : Bool, e = .returned (.bool r) ∧ (r = false → SSmall d ∧ nt ≤ 1048576)
theorem tooBig_yes (d : SD) (nt : Nat) : TooBigSays d nt (.returned (.bool true)) := ⟨true, rfl, fun h => by cases h⟩

theorem tooBig_any (d : SD) (x : SA) (at1 : Option Addr) (nt ct : Nat) (w : World) :
    Calls Try.prog 7 #[.agg (vals d x), .slice at1 nt ct] w fun e w' => TooBigSays d nt e ∧ Below w.heap.size w w' := by
  obtain ⟨nV, fV, nP, fP, nSt, fSt, nSu, fSu, nL, fL, nW, fW, nA, fA, nC, fC, nR, fR, at_, nPS, fPS, nPr, fPr, nVL, fVL⟩ := d
  obtain ⟨aV, cV, aP, cP, aSt, cSt, aSu, cSu, aL, cL, aW, cW, aA, cA, aC, cC, aR, cR, aPS, cPS, aPr, cPr, aVL, cVL⟩ := x
  show Calls Try.prog 7 #[.agg #[.slice aV nV cV, .slice aP nP cP, .slice aSt nSt cSt, .slice aSu nSu cSu, .slice aL nL cL, .slice aW nW cW, .slice aA nA cA, .slice aC nC cC, .slice aR nR cR, .int .i32 at_, .slice aPS nPS cPS, .slice aPr nPr cPr, .slice aVL nVL cVL], .slice at1 nt ct] w _
  by_cases hV : 1048576 < nV
  · refine (tooBig_0 aV nV cV aP nP cP aSt nSt cSt aSu nSu cSu aL nL cL aW nW cW aA nA cA aC nC cC aR nR cR aPS nPS cPS aPr nPr cPr aVL nVL cVL at_ at1 nt ct w  (by simp; omega)).mono ?_
    rintro e w' ⟨rfl, hb⟩
    exact ⟨tooBig_yes _ _, hb⟩
  have dV : decide (1048576 < (nV : Int)) = false := by simp; omega
  by_cases hP : 1048576 < nP
  · refine (tooBig_1 aV nV cV aP nP cP aSt nSt cSt aSu nSu cSu aL nL cL aW nW cW aA nA cA aC nC cC aR nR cR aPS nPS cPS aPr nPr cPr aVL nVL cVL at_ at1 nt ct w dV (by simp; omega)).mono ?_
    rintro e w' ⟨rfl, hb⟩
    exact ⟨tooBig_yes _ _, hb⟩
  have dP : decide (1048576 < (nP : Int)) = false := by simp; omega
  by_cases hSt : 1048576 < nSt
  · refine (tooBig_2 aV nV cV aP nP cP aSt nSt cSt aSu nSu cSu aL nL cL aW nW cW aA nA cA aC nC cC aR nR cR aPS nPS cPS aPr nPr cPr aVL nVL cVL at_ at1 nt ct w dV dP (by simp; omega)).mono ?_
    rintro e w' ⟨rfl, hb⟩
    exact ⟨tooBig_yes _ _, hb⟩
  have dSt : decide (1048576 < (nSt : Int)) = false := by simp; omega
  by_cases hSu : 1048576 < nSu
  · refine (tooBig_3 aV nV cV aP nP cP aSt nSt cSt aSu nSu cSu aL nL cL aW nW cW aA nA cA aC nC cC aR nR cR aPS nPS cPS aPr nPr cPr aVL nVL cVL at_ at1 nt ct w dV dP dSt (by simp; omega)).mono ?_
    rintro e w' ⟨rfl, hb⟩
    exact ⟨tooBig_yes _ _, hb⟩
  have dSu : decide (1048576 < (nSu : Int)) = false := by simp; omega
  by_cases hL : 1048576 < nL
  · refine (tooBig_4 aV nV cV aP nP cP aSt nSt cSt aSu nSu cSu aL nL cL aW nW cW aA nA cA aC nC cC aR nR cR aPS nPS cPS aPr nPr cPr aVL nVL cVL at_ at1 nt ct w dV dP dSt dSu (by simp; omega)).mono ?_
    rintro e w' ⟨rfl, hb⟩
    exact ⟨tooBig_yes _ _, hb⟩
  have dL : decide (1048576 < (nL : Int)) = false := by simp; omega
  by_cases hW : 1048576 < nW
  · refine (tooBig_5 aV nV cV aP nP cP aSt nSt cSt aSu nSu cSu aL nL cL aW nW cW aA nA cA aC nC cC aR nR cR aPS nPS cPS aPr nPr cPr aVL nVL cVL at_ at1 nt ct w dV dP dSt dSu dL (by simp; omega)).mono ?_
    rintro e w' ⟨rfl, hb⟩
    exact ⟨tooBig_yes _ _, hb⟩
  have dW : decide (1048576 < (nW : Int)) = false := by simp; omega
  by_cases hA : 1048576 < nA
  · refine (tooBig_6 aV nV cV aP nP cP aSt nSt cSt aSu nSu cSu aL nL cL aW nW cW aA nA cA aC nC cC aR nR cR aPS nPS cPS aPr nPr cPr aVL nVL cVL at_ at1 nt ct w dV dP dSt dSu dL dW (by simp; omega)).mono ?_
    rintro e w' ⟨rfl, hb⟩
    exact ⟨tooBig_yes _ _, hb⟩
  have dA : decide (1048576 < (nA : Int)) = false := by simp; omega
  by_cases hC : 1048576 < nC
  · refine (tooBig_7 aV nV cV aP nP cP aSt nSt cSt aSu nSu cSu aL nL cL aW nW cW aA nA cA aC nC cC aR nR cR aPS nPS cPS aPr nPr cPr aVL nVL cVL at_ at1 nt ct w dV dP dSt dSu dL dW dA (by simp; omega)).mono ?_
    rintro e w' ⟨rfl, hb⟩
    exact ⟨tooBig_yes _ _, hb⟩
  have dC : decide (1048576 < (nC : Int)) = false := by simp; omega
  by_cases hR : 1048576 < nR
  · refine (tooBig_8 aV nV cV aP nP cP aSt nSt cSt aSu nSu cSu aL nL cL aW nW cW aA nA cA aC nC cC aR nR cR aPS nPS cPS aPr nPr cPr aVL nVL cVL at_ at1 nt ct w dV dP dSt dSu dL dW dA dC (by simp; omega)).mono ?_
    rintro e w' ⟨rfl, hb⟩
    exact ⟨tooBig_yes _ _, hb⟩
  have dR : decide (1048576 < (nR : Int)) = false := by simp; omega
  by_cases hPS : 1048576 < nPS
  · refine (tooBig_9 aV nV cV aP nP cP aSt nSt cSt aSu nSu cSu aL nL cL aW nW cW aA nA cA aC nC cC aR nR cR aPS nPS cPS aPr nPr cPr aVL nVL cVL at_ at1 nt ct w dV dP dSt dSu dL dW dA dC dR (by simp; omega)).mono ?_
    rintro e w' ⟨rfl, hb⟩
    exact ⟨tooBig_yes _ _, hb⟩
  have dPS : decide (1048576 < (nPS : Int)) = false := by simp; omega
  by_cases hPr : 1048576 < nPr
  · refine (tooBig_10 aV nV cV aP nP cP aSt nSt cSt aSu nSu cSu aL nL cL aW nW cW aA nA cA aC nC cC aR nR cR aPS nPS cPS aPr nPr cPr aVL nVL cVL at_ at1 nt ct w dV dP dSt dSu dL dW dA dC dR dPS (by simp; omega)).mono ?_
    rintro e w' ⟨rfl, hb⟩
    exact ⟨tooBig_yes _ _, hb⟩
  have dPr : decide (1048576 < (nPr : Int)) = false := by simp; omega
  by_cases hVL : 1048576 < nVL
  · refine (tooBig_11 aV nV cV aP nP cP aSt nSt cSt aSu nSu cSu aL nL cL aW nW cW aA nA cA aC nC cC aR nR cR aPS nPS cPS aPr nPr cPr aVL nVL cVL at_ at1 nt ct w dV dP dSt dSu dL dW dA dC dR dPS dPr (by simp; omega)).mono ?_
    rintro e w' ⟨rfl, hb⟩
    exact ⟨tooBig_yes _ _, hb⟩
  have dVL : decide (1048576 < (nVL : Int)) = false := by simp; omega
  by_cases ht : 1048576 < nt
  · refine (tooBig_12 aV nV cV aP nP cP aSt nSt cSt aSu nSu cSu aL nL cL aW nW cW aA nA cA aC nC cC aR nR cR aPS nPS cPS aPr nPr cPr aVL nVL cVL at_ at1 nt ct w dV dP dSt dSu dL dW dA dC dR dPS dPr dVL (by simp; omega)).mono ?_
    rintro e w' ⟨rfl, hb⟩
    exact ⟨tooBig_yes _ _, hb⟩
  have dt : decide (1048576 < (nt : Int)) = false := by simp; omega
  refine (tooBig_small aV nV cV aP nP cP aSt nSt cSt aSu nSu cSu aL nL cL aW nW cW aA nA cA aC nC cC aR nR cR aPS nPS cPS aPr nPr cPr aVL nVL cVL at_ at1 nt ct w (by omega) (by omega) (by omega) (by omega) (by omega) (by omega) (by omega) (by omega) (by omega) (by omega) (by omega) (by omega) (by omega)).mono ?_
  rintro e w' ⟨⟨r, rfl⟩, hb⟩
  exact ⟨⟨r, rfl, fun _ => ⟨⟨by simp only; omega, by simp only; omega, by simp only; omega, by simp only; omega, by simp only; omega, by simp only; omega, by simp only; omega, by simp only; omega, by simp only; omega, by simp only; omega, by simp only; omega, by simp only; omega⟩, by omega⟩⟩, hb⟩

end Go.Proofs.Qxb6605408a
