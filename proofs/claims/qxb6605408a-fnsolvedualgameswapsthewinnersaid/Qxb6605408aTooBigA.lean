import Derived.Test.Qxb6605408aBytes
namespace Go.Proofs.Qxb6605408a
open Go.RowKit
set_option linter.unusedVariables false

set_option maxRecDepth 100000 in
set_option maxHeartbeats 8000000 in
theorem tooBig_0 (aV : Option Addr) (nV cV : Nat) (aP : Option Addr) (nP cP : Nat) (aSt : Option Addr) (nSt cSt : Nat) (aSu : Option Addr) (nSu cSu : Nat) (aL : Option Addr) (nL cL : Nat) (aW : Option Addr) (nW cW : Nat) (aA : Option Addr) (nA cA : Nat) (aC : Option Addr) (nC cC : Nat) (aR : Option Addr) (nR cR : Nat) (aPS : Option Addr) (nPS cPS : Nat) (aPr : Option Addr) (nPr cPr : Nat) (aVL : Option Addr) (nVL cVL : Nat) (at_ : Int) (at1 : Option Addr) (nt ct : Nat) (w : World)  (dV : decide (1048576 < (nV : Int)) = true) :
    Calls Try.prog 7 #[.agg #[.slice aV nV cV, .slice aP nP cP, .slice aSt nSt cSt, .slice aSu nSu cSu, .slice aL nL cL, .slice aW nW cW, .slice aA nA cA, .slice aC nC cC, .slice aR nR cR, .int .i32 at_, .slice aPS nPS cPS, .slice aPr nPr cPr, .slice aVL nVL cVL], .slice at1 nt ct] w fun e w' => e = .returned (.bool true) ∧ Below w.heap.size w w' := by
  go_enter Try.func7, Try.ntmps7
  go_wp2
  go_ret
  exact ⟨rfl, (Below.refl _ _).alloc (Nat.le_refl _) _⟩

set_option maxRecDepth 100000 in
set_option maxHeartbeats 8000000 in
theorem tooBig_1 (aV : Option Addr) (nV cV : Nat) (aP : Option Addr) (nP cP : Nat) (aSt : Option Addr) (nSt cSt : Nat) (aSu : Option Addr) (nSu cSu : Nat) (aL : Option Addr) (nL cL : Nat) (aW : Option Addr) (nW cW : Nat) (aA : Option Addr) (nA cA : Nat) (aC : Option Addr) (nC cC : Nat) (aR : Option Addr) (nR cR : Nat) (aPS : Option Addr) (nPS cPS : Nat) (aPr : Option Addr) (nPr cPr : Nat) (aVL : Option Addr) (nVL cVL : Nat) (at_ : Int) (at1 : Option Addr) (nt ct : Nat) (w : World) (dV : decide (1048576 < (nV : Int)) = false) (dP : decide (1048576 < (nP : Int)) = true) :
    Calls Try.prog 7 #[.agg #[.slice aV nV cV, .slice aP nP cP, .slice aSt nSt cSt, .slice aSu nSu cSu, .slice aL nL cL, .slice aW nW cW, .slice aA nA cA, .slice aC nC cC, .slice aR nR cR, .int .i32 at_, .slice aPS nPS cPS, .slice aPr nPr cPr, .slice aVL nVL cVL], .slice at1 nt ct] w fun e w' => e = .returned (.bool true) ∧ Below w.heap.size w w' := by
  go_enter Try.func7, Try.ntmps7
  go_wp2
  go_ret
  exact ⟨rfl, (Below.refl _ _).alloc (Nat.le_refl _) _⟩

set_option maxRecDepth 100000 in
set_option maxHeartbeats 8000000 in
theorem tooBig_2 (aV : Option Addr) (nV cV : Nat) (aP : Option Addr) (nP cP : Nat) (aSt : Option Addr) (nSt cSt : Nat) (aSu : Option Addr) (nSu cSu : Nat) (aL : Option Addr) (nL cL : Nat) (aW : Option Addr) (nW cW : Nat) (aA : Option Addr) (nA cA : Nat) (aC : Option Addr) (nC cC : Nat) (aR : Option Addr) (nR cR : Nat) (aPS : Option Addr) (nPS cPS : Nat) (aPr : Option Addr) (nPr cPr : Nat) (aVL : Option Addr) (nVL cVL : Nat) (at_ : Int) (at1 : Option Addr) (nt ct : Nat) (w : World) (dV : decide (1048576 < (nV : Int)) = false) (dP : decide (1048576 < (nP : Int)) = false) (dSt : decide (1048576 < (nSt : Int)) = true) :
    Calls Try.prog 7 #[.agg #[.slice aV nV cV, .slice aP nP cP, .slice aSt nSt cSt, .slice aSu nSu cSu, .slice aL nL cL, .slice aW nW cW, .slice aA nA cA, .slice aC nC cC, .slice aR nR cR, .int .i32 at_, .slice aPS nPS cPS, .slice aPr nPr cPr, .slice aVL nVL cVL], .slice at1 nt ct] w fun e w' => e = .returned (.bool true) ∧ Below w.heap.size w w' := by
  go_enter Try.func7, Try.ntmps7
  go_wp2
  go_ret
  exact ⟨rfl, (Below.refl _ _).alloc (Nat.le_refl _) _⟩

set_option maxRecDepth 100000 in
set_option maxHeartbeats 8000000 in
theorem tooBig_3 (aV : Option Addr) (nV cV : Nat) (aP : Option Addr) (nP cP : Nat) (aSt : Option Addr) (nSt cSt : Nat) (aSu : Option Addr) (nSu cSu : Nat) (aL : Option Addr) (nL cL : Nat) (aW : Option Addr) (nW cW : Nat) (aA : Option Addr) (nA cA : Nat) (aC : Option Addr) (nC cC : Nat) (aR : Option Addr) (nR cR : Nat) (aPS : Option Addr) (nPS cPS : Nat) (aPr : Option Addr) (nPr cPr : Nat) (aVL : Option Addr) (nVL cVL : Nat) (at_ : Int) (at1 : Option Addr) (nt ct : Nat) (w : World) (dV : decide (1048576 < (nV : Int)) = false) (dP : decide (1048576 < (nP : Int)) = false) (dSt : decide (1048576 < (nSt : Int)) = false) (dSu : decide (1048576 < (nSu : Int)) = true) :
    Calls Try.prog 7 #[.agg #[.slice aV nV cV, .slice aP nP cP, .slice aSt nSt cSt, .slice aSu nSu cSu, .slice aL nL cL, .slice aW nW cW, .slice aA nA cA, .slice aC nC cC, .slice aR nR cR, .int .i32 at_, .slice aPS nPS cPS, .slice aPr nPr cPr, .slice aVL nVL cVL], .slice at1 nt ct] w fun e w' => e = .returned (.bool true) ∧ Below w.heap.size w w' := by
  go_enter Try.func7, Try.ntmps7
  go_wp2
  go_ret
  exact ⟨rfl, (Below.refl _ _).alloc (Nat.le_refl _) _⟩

set_option maxRecDepth 100000 in
set_option maxHeartbeats 8000000 in
theorem tooBig_4 (aV : Option Addr) (nV cV : Nat) (aP : Option Addr) (nP cP : Nat) (aSt : Option Addr) (nSt cSt : Nat) (aSu : Option Addr) (nSu cSu : Nat) (aL : Option Addr) (nL cL : Nat) (aW : Option Addr) (nW cW : Nat) (aA : Option Addr) (nA cA : Nat) (aC : Option Addr) (nC cC : Nat) (aR : Option Addr) (nR cR : Nat) (aPS : Option Addr) (nPS cPS : Nat) (aPr : Option Addr) (nPr cPr : Nat) (aVL : Option Addr) (nVL cVL : Nat) (at_ : Int) (at1 : Option Addr) (nt ct : Nat) (w : World) (dV : decide (1048576 < (nV : Int)) = false) (dP : decide (1048576 < (nP : Int)) = false) (dSt : decide (1048576 < (nSt : Int)) = false) (dSu : decide (1048576 < (nSu : Int)) = false) (dL : decide (1048576 < (nL : Int)) = true) :
    Calls Try.prog 7 #[.agg #[.slice aV nV cV, .slice aP nP cP, .slice aSt nSt cSt, .slice aSu nSu cSu, .slice aL nL cL, .slice aW nW cW, .slice aA nA cA, .slice aC nC cC, .slice aR nR cR, .int .i32 at_, .slice aPS nPS cPS, .slice aPr nPr cPr, .slice aVL nVL cVL], .slice at1 nt ct] w fun e w' => e = .returned (.bool true) ∧ Below w.heap.size w w' := by
  go_enter Try.func7, Try.ntmps7
  go_wp2
  go_ret
  exact ⟨rfl, (Below.refl _ _).alloc (Nat.le_refl _) _⟩

end Go.Proofs.Qxb6605408a
