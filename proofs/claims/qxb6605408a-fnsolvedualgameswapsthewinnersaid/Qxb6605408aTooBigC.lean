import Derived.Test.Qxb6605408aBytes
namespace Go.Proofs.Qxb6605408a
open Go.RowKit
set_option linter.unusedVariables false

set_option maxRecDepth 100000 in
set_option maxHeartbeats 8000000 in
theorem tooBig_10 (aV : Option Addr) (nV cV : Nat) (aP : Option Addr) (nP cP : Nat) (aSt : Option Addr) (nSt cSt : Nat) (aSu : Option Addr) (nSu cSu : Nat) (aL : Option Addr) (nL cL : Nat) (aW : Option Addr) (nW cW : Nat) (aA : Option Addr) (nA cA : Nat) (aC : Option Addr) (nC cC : Nat) (aR : Option Addr) (nR cR : Nat) (aPS : Option Addr) (nPS cPS : Nat) (aPr : Option Addr) (nPr cPr : Nat) (aVL : Option Addr) (nVL cVL : Nat) (at_ : Int) (at1 : Option Addr) (nt ct : Nat) (w : World) (dV : decide (1048576 < (nV : Int)) = false) (dP : decide (1048576 < (nP : Int)) = false) (dSt : decide (1048576 < (nSt : Int)) = false) (dSu : decide (1048576 < (nSu : Int)) = false) (dL : decide (1048576 < (nL : Int)) = false) (dW : decide (1048576 < (nW : Int)) = false) (dA : decide (1048576 < (nA : Int)) = false) (dC : decide (1048576 < (nC : Int)) = false) (dR : decide (1048576 < (nR : Int)) = false) (dPS : decide (1048576 < (nPS : Int)) = false) (dPr : decide (1048576 < (nPr : Int)) = true) :
    Calls Try.prog 7 #[.agg #[.slice aV nV cV, .slice aP nP cP, .slice aSt nSt cSt, .slice aSu nSu cSu, .slice aL nL cL, .slice aW nW cW, .slice aA nA cA, .slice aC nC cC, .slice aR nR cR, .int .i32 at_, .slice aPS nPS cPS, .slice aPr nPr cPr, .slice aVL nVL cVL], .slice at1 nt ct] w fun e w' => e = .returned (.bool true) ∧ Below w.heap.size w w' := by
  go_enter Try.func7, Try.ntmps7
  go_wp2
  go_ret
  exact ⟨rfl, (Below.refl _ _).alloc (Nat.le_refl _) _⟩

set_option maxRecDepth 100000 in
set_option maxHeartbeats 8000000 in
theorem tooBig_11 (aV : Option Addr) (nV cV : Nat) (aP : Option Addr) (nP cP : Nat) (aSt : Option Addr) (nSt cSt : Nat) (aSu : Option Addr) (nSu cSu : Nat) (aL : Option Addr) (nL cL : Nat) (aW : Option Addr) (nW cW : Nat) (aA : Option Addr) (nA cA : Nat) (aC : Option Addr) (nC cC : Nat) (aR : Option Addr) (nR cR : Nat) (aPS : Option Addr) (nPS cPS : Nat) (aPr : Option Addr) (nPr cPr : Nat) (aVL : Option Addr) (nVL cVL : Nat) (at_ : Int) (at1 : Option Addr) (nt ct : Nat) (w : World) (dV : decide (1048576 < (nV : Int)) = false) (dP : decide (1048576 < (nP : Int)) = false) (dSt : decide (1048576 < (nSt : Int)) = false) (dSu : decide (1048576 < (nSu : Int)) = false) (dL : decide (1048576 < (nL : Int)) = false) (dW : decide (1048576 < (nW : Int)) = false) (dA : decide (1048576 < (nA : Int)) = false) (dC : decide (1048576 < (nC : Int)) = false) (dR : decide (1048576 < (nR : Int)) = false) (dPS : decide (1048576 < (nPS : Int)) = false) (dPr : decide (1048576 < (nPr : Int)) = false) (dVL : decide (1048576 < (nVL : Int)) = true) :
    Calls Try.prog 7 #[.agg #[.slice aV nV cV, .slice aP nP cP, .slice aSt nSt cSt, .slice aSu nSu cSu, .slice aL nL cL, .slice aW nW cW, .slice aA nA cA, .slice aC nC cC, .slice aR nR cR, .int .i32 at_, .slice aPS nPS cPS, .slice aPr nPr cPr, .slice aVL nVL cVL], .slice at1 nt ct] w fun e w' => e = .returned (.bool true) ∧ Below w.heap.size w w' := by
  go_enter Try.func7, Try.ntmps7
  go_wp2
  go_ret
  exact ⟨rfl, (Below.refl _ _).alloc (Nat.le_refl _) _⟩

set_option maxRecDepth 100000 in
set_option maxHeartbeats 8000000 in
theorem tooBig_12 (aV : Option Addr) (nV cV : Nat) (aP : Option Addr) (nP cP : Nat) (aSt : Option Addr) (nSt cSt : Nat) (aSu : Option Addr) (nSu cSu : Nat) (aL : Option Addr) (nL cL : Nat) (aW : Option Addr) (nW cW : Nat) (aA : Option Addr) (nA cA : Nat) (aC : Option Addr) (nC cC : Nat) (aR : Option Addr) (nR cR : Nat) (aPS : Option Addr) (nPS cPS : Nat) (aPr : Option Addr) (nPr cPr : Nat) (aVL : Option Addr) (nVL cVL : Nat) (at_ : Int) (at1 : Option Addr) (nt ct : Nat) (w : World) (dV : decide (1048576 < (nV : Int)) = false) (dP : decide (1048576 < (nP : Int)) = false) (dSt : decide (1048576 < (nSt : Int)) = false) (dSu : decide (1048576 < (nSu : Int)) = false) (dL : decide (1048576 < (nL : Int)) = false) (dW : decide (1048576 < (nW : Int)) = false) (dA : decide (1048576 < (nA : Int)) = false) (dC : decide (1048576 < (nC : Int)) = false) (dR : decide (1048576 < (nR : Int)) = false) (dPS : decide (1048576 < (nPS : Int)) = false) (dPr : decide (1048576 < (nPr : Int)) = false) (dVL : decide (1048576 < (nVL : Int)) = false) (dt : decide (1048576 < (nt : Int)) = true) :
    Calls Try.prog 7 #[.agg #[.slice aV nV cV, .slice aP nP cP, .slice aSt nSt cSt, .slice aSu nSu cSu, .slice aL nL cL, .slice aW nW cW, .slice aA nA cA, .slice aC nC cC, .slice aR nR cR, .int .i32 at_, .slice aPS nPS cPS, .slice aPr nPr cPr, .slice aVL nVL cVL], .slice at1 nt ct] w fun e w' => e = .returned (.bool true) ∧ Below w.heap.size w w' := by
  go_enter Try.func7, Try.ntmps7
  go_wp2
  go_ret
  exact ⟨rfl, (Below.refl _ _).alloc (Nat.le_refl _) _⟩

set_option maxRecDepth 100000 in
set_option maxHeartbeats 8000000 in
theorem tooBig_small (aV : Option Addr) (nV cV : Nat) (aP : Option Addr) (nP cP : Nat) (aSt : Option Addr) (nSt cSt : Nat) (aSu : Option Addr) (nSu cSu : Nat) (aL : Option Addr) (nL cL : Nat) (aW : Option Addr) (nW cW : Nat) (aA : Option Addr) (nA cA : Nat) (aC : Option Addr) (nC cC : Nat) (aR : Option Addr) (nR cR : Nat) (aPS : Option Addr) (nPS cPS : Nat) (aPr : Option Addr) (nPr cPr : Nat) (aVL : Option Addr) (nVL cVL : Nat) (at_ : Int) (at1 : Option Addr) (nt ct : Nat) (w : World) (sV : nV ≤ 1048576) (sP : nP ≤ 1048576) (sSt : nSt ≤ 1048576) (sSu : nSu ≤ 1048576) (sL : nL ≤ 1048576) (sW : nW ≤ 1048576) (sA : nA ≤ 1048576) (sC : nC ≤ 1048576) (sR : nR ≤ 1048576) (sPS : nPS ≤ 1048576) (sPr : nPr ≤ 1048576) (sVL : nVL ≤ 1048576) (st : nt ≤ 1048576) :
    Calls Try.prog 7 #[.agg #[.slice aV nV cV, .slice aP nP cP, .slice aSt nSt cSt, .slice aSu nSu cSu, .slice aL nL cL, .slice aW nW cW, .slice aA nA cA, .slice aC nC cC, .slice aR nR cR, .int .i32 at_, .slice aPS nPS cPS, .slice aPr nPr cPr, .slice aVL nVL cVL], .slice at1 nt ct] w fun e w' => SomeBool e ∧ Below w.heap.size w w' := by
  have dV : decide (1048576 < (nV : Int)) = false := by simp; omega
  have dP : decide (1048576 < (nP : Int)) = false := by simp; omega
  have dSt : decide (1048576 < (nSt : Int)) = false := by simp; omega
  have dSu : decide (1048576 < (nSu : Int)) = false := by simp; omega
  have dL : decide (1048576 < (nL : Int)) = false := by simp; omega
  have dW : decide (1048576 < (nW : Int)) = false := by simp; omega
  have dA : decide (1048576 < (nA : Int)) = false := by simp; omega
  have dC : decide (1048576 < (nC : Int)) = false := by simp; omega
  have dR : decide (1048576 < (nR : Int)) = false := by simp; omega
  have dPS : decide (1048576 < (nPS : Int)) = false := by simp; omega
  have dPr : decide (1048576 < (nPr : Int)) = false := by simp; omega
  have dVL : decide (1048576 < (nVL : Int)) = false := by simp; omega
  have dt : decide (1048576 < (nt : Int)) = false := by simp; omega
  go_enter Try.func7, Try.ntmps7
  go_wp2
  go_ret
  exact ⟨someBool _, (Below.refl _ _).alloc (Nat.le_refl _) _⟩

end Go.Proofs.Qxb6605408a
