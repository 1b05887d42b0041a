import Derived.Test.Qxb6605408aSolver
namespace Go.Proofs.Qxb6605408a
open Go.RowKit
set_option linter.unusedVariables false

/-- it returns some bool -/
def SomeBool (e : Ending) : Prop := ∃ r : Bool, e = .returned (.bool r)
theorem someBool (r : Bool) : SomeBool (.returned (.bool r)) := ⟨r, rfl⟩

set_option maxRecDepth 100000 in
set_option maxHeartbeats 8000000 in
theorem bytes6_any (d : SD) (x : SA) (at1 : Option Addr) (nt ct : Nat) (vf : Bool) (dp : Int) (w : World) (hl : d.nV ≤ 9223372036854775807 ∧ d.nP ≤ 9223372036854775807 ∧ d.nSt ≤ 9223372036854775807 ∧ d.nSu ≤ 9223372036854775807 ∧ d.nL ≤ 9223372036854775807 ∧ d.nW ≤ 9223372036854775807 ∧ d.nA ≤ 9223372036854775807 ∧ d.nC ≤ 9223372036854775807 ∧ d.nR ≤ 9223372036854775807 ∧ d.nPS ≤ 9223372036854775807 ∧ d.nPr ≤ 9223372036854775807 ∧ d.nVL ≤ 9223372036854775807 ∧ nt ≤ 9223372036854775807) :
    Calls Try.prog 6 #[.agg (vals d x), .slice at1 nt ct, .bool vf, .int .i32 dp] w fun e w' => SomeBool e ∧ Below w.heap.size w w' := by
  obtain ⟨nV, fV, nP, fP, nSt, fSt, nSu, fSu, nL, fL, nW, fW, nA, fA, nC, fC, nR, fR, at_, nPS, fPS, nPr, fPr, nVL, fVL⟩ := d
  obtain ⟨aV, cV, aP, cP, aSt, cSt, aSu, cSu, aL, cL, aW, cW, aA, cA, aC, cC, aR, cR, aPS, cPS, aPr, cPr, aVL, cVL⟩ := x
  obtain ⟨lV, lP, lSt, lSu, lL, lW, lA, lC, lR, lPS, lPr, lVL, lt⟩ := hl
  simp only at lV lP lSt lSu lL lW lA lC lR lPS lPr lVL
  show Calls Try.prog 6 #[.agg #[.slice aV nV cV, .slice aP nP cP, .slice aSt nSt cSt, .slice aSu nSu cSu, .slice aL nL cL, .slice aW nW cW, .slice aA nA cA, .slice aC nC cC, .slice aR nR cR, .int .i32 at_, .slice aPS nPS cPS, .slice aPr nPr cPr, .slice aVL nVL cVL], .slice at1 nt ct, .bool vf, .int .i32 dp] w _
  go_enter Try.func6, Try.ntmps6
  go_wp2
  all_goals (go_ret; exact ⟨someBool _, (Below.refl _ _).alloc (Nat.le_refl _) _⟩)

set_option maxRecDepth 100000 in
set_option maxHeartbeats 8000000 in
theorem bytes17_any (d : SD) (x : SA) (at1 : Option Addr) (nt ct : Nat) (vf : Bool) (dp : Int) (w : World) (hl : d.nV ≤ 9223372036854775807 ∧ d.nP ≤ 9223372036854775807 ∧ d.nSt ≤ 9223372036854775807 ∧ d.nSu ≤ 9223372036854775807 ∧ d.nL ≤ 9223372036854775807 ∧ d.nW ≤ 9223372036854775807 ∧ d.nA ≤ 9223372036854775807 ∧ d.nC ≤ 9223372036854775807 ∧ d.nR ≤ 9223372036854775807 ∧ d.nPS ≤ 9223372036854775807 ∧ d.nPr ≤ 9223372036854775807 ∧ d.nVL ≤ 9223372036854775807 ∧ nt ≤ 9223372036854775807) :
    Calls Try.prog 17 #[.agg (vals d x), .slice at1 nt ct, .bool vf, .int .i32 dp] w fun e w' => SomeBool e ∧ Below w.heap.size w w' := by
  obtain ⟨nV, fV, nP, fP, nSt, fSt, nSu, fSu, nL, fL, nW, fW, nA, fA, nC, fC, nR, fR, at_, nPS, fPS, nPr, fPr, nVL, fVL⟩ := d
  obtain ⟨aV, cV, aP, cP, aSt, cSt, aSu, cSu, aL, cL, aW, cW, aA, cA, aC, cC, aR, cR, aPS, cPS, aPr, cPr, aVL, cVL⟩ := x
  obtain ⟨lV, lP, lSt, lSu, lL, lW, lA, lC, lR, lPS, lPr, lVL, lt⟩ := hl
  simp only at lV lP lSt lSu lL lW lA lC lR lPS lPr lVL
  show Calls Try.prog 17 #[.agg #[.slice aV nV cV, .slice aP nP cP, .slice aSt nSt cSt, .slice aSu nSu cSu, .slice aL nL cL, .slice aW nW cW, .slice aA nA cA, .slice aC nC cC, .slice aR nR cR, .int .i32 at_, .slice aPS nPS cPS, .slice aPr nPr cPr, .slice aVL nVL cVL], .slice at1 nt ct, .bool vf, .int .i32 dp] w _
  go_enter Try.func17, Try.ntmps17
  go_wp2
  all_goals (go_ret; exact ⟨someBool _, (Below.refl _ _).alloc (Nat.le_refl _) _⟩)

set_option maxRecDepth 100000 in
set_option maxHeartbeats 8000000 in
theorem bytes18_any (d : SD) (x : SA) (at1 : Option Addr) (nt ct : Nat) (dp : Int) (w : World) (hl : d.nV ≤ 9223372036854775807 ∧ d.nP ≤ 9223372036854775807 ∧ d.nSt ≤ 9223372036854775807 ∧ d.nSu ≤ 9223372036854775807 ∧ d.nL ≤ 9223372036854775807 ∧ d.nW ≤ 9223372036854775807 ∧ d.nA ≤ 9223372036854775807 ∧ d.nC ≤ 9223372036854775807 ∧ d.nR ≤ 9223372036854775807 ∧ d.nPS ≤ 9223372036854775807 ∧ d.nPr ≤ 9223372036854775807 ∧ d.nVL ≤ 9223372036854775807 ∧ nt ≤ 9223372036854775807) :
    Calls Try.prog 18 #[.agg (vals d x), .slice at1 nt ct, .int .i32 dp] w fun e w' => SomeBool e ∧ Below w.heap.size w w' := by
  obtain ⟨nV, fV, nP, fP, nSt, fSt, nSu, fSu, nL, fL, nW, fW, nA, fA, nC, fC, nR, fR, at_, nPS, fPS, nPr, fPr, nVL, fVL⟩ := d
  obtain ⟨aV, cV, aP, cP, aSt, cSt, aSu, cSu, aL, cL, aW, cW, aA, cA, aC, cC, aR, cR, aPS, cPS, aPr, cPr, aVL, cVL⟩ := x
  obtain ⟨lV, lP, lSt, lSu, lL, lW, lA, lC, lR, lPS, lPr, lVL, lt⟩ := hl
  simp only at lV lP lSt lSu lL lW lA lC lR lPS lPr lVL
  show Calls Try.prog 18 #[.agg #[.slice aV nV cV, .slice aP nP cP, .slice aSt nSt cSt, .slice aSu nSu cSu, .slice aL nL cL, .slice aW nW cW, .slice aA nA cA, .slice aC nC cC, .slice aR nR cR, .int .i32 at_, .slice aPS nPS cPS, .slice aPr nPr cPr, .slice aVL nVL cVL], .slice at1 nt ct, .int .i32 dp] w _
  go_enter Try.func18, Try.ntmps18
  go_wp2
  all_goals (go_ret; exact ⟨someBool _, (Below.refl _ _).alloc (Nat.le_refl _) _⟩)

end Go.Proofs.Qxb6605408a
