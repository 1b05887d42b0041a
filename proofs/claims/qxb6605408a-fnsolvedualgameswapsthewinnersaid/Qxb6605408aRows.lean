/-
  No cell of these rows narrows 'for every input' (looked for: loops, veiled, ifaces, maps, wideKeys, modest, calm, conditions, laid).
  DERIVED. THE GIVEN ROWS OF THIS SEAT. 3 by the template 'for every input the law returns true; each argument reads behind the call as it read before'; 0 by the template 'total and deterministic' (their statements: Qxb6605408aTotals.lean).
  GIVEN WITH THE SEED: the statements are not yours to turn. If you find one false, say at which input.
  Laid BY PROGRAM, IN A SANDBOX (cutbox-rows.mjs): the forced cells as the released guide's own fill.sh prints them over the translation 5695258cd9ac35c2… (all of the seat's roots in one cut). By AI agents, Wed Nov 11 2026. No macro, syntax, notation, axiom, sorry.
-/
import Derived.Test.Qxb6605408aChecked
import GoSem.Claim
import GoSem.ClaimJoined
import GoSem.ClaimMapViews
import Derived.JoinedTies
import Derived.KernelRfl
namespace Go.Proofs.Qxb6605408a
/- THE CELL 'sum', in the pinned program and in every row, IS THE sha256 OF THE DUMP (.gsa) THAT Qxb6605408aProg.lean LOADS. Nothing in Lean hashes anything: it is a label: what it is worth is what the hold of that sum in a sandbox is worth. -/
noncomputable def Try.pinned : Pinned := { name := "qxb6605408a", sum := "5695258cd9ac35c2dc95dd994d0c95e7cc02d52eda69b55808db008e23edd916", checked := Try.checked }
namespace Rows
def none {H : Type} : Left H := { results := [], args := [] }

/-- 'zzlaws_pkg_logic_b1.FnAttractIsTheLeastForcedSet': WHATEVER THE INPUT: true; the input reads as it did. -/
def fnAttractIsTheLeastForcedSetSpec : ChangeSpec := { name := "fnAttractIsTheLeastForcedSet", fn := fun _ => fun
  | [d1, d2, d3, d4] => { results := [.lit (.bool true)], args := [d1, d2, d3, d4] }
  | _ => none }
def fnAttractIsTheLeastForcedSetRow : OpenClaim := { program := "qxb6605408a", sum := "5695258cd9ac35c2dc95dd994d0c95e7cc02d52eda69b55808db008e23edd916", func := "example.com/amends/amends/zzlaws_pkg_logic_b1.FnAttractIsTheLeastForcedSet", spec := "fnAttractIsTheLeastForcedSet", apart := false }
def FnAttractIsTheLeastForcedSetSaid : Prop := fnAttractIsTheLeastForcedSetRow.holds Try.pinned (OpenSpec.ofChange fnAttractIsTheLeastForcedSetSpec)

/-- ITS FALSE NEIGHBOUR: 'it returns false'. Refute it at one input. -/
def fnAttractIsTheLeastForcedSetWrong : ChangeSpec := { name := "fnAttractIsTheLeastForcedSet", fn := fun _ => fun
  | [d1, d2, d3, d4] => { results := [.lit (.bool false)], args := [d1, d2, d3, d4] }
  | _ => none }
def FnAttractIsTheLeastForcedSetWrongFalsely : Prop := fnAttractIsTheLeastForcedSetRow.holds Try.pinned (OpenSpec.ofChange fnAttractIsTheLeastForcedSetWrong)

/-- 'zzlaws_pkg_logic_b1.FnAttractTwiceTakesNothingMore': WHATEVER THE INPUT: true; the input reads as it did. -/
def fnAttractTwiceTakesNothingMoreSpec : ChangeSpec := { name := "fnAttractTwiceTakesNothingMore", fn := fun _ => fun
  | [d1, d2, d3, d4] => { results := [.lit (.bool true)], args := [d1, d2, d3, d4] }
  | _ => none }
def fnAttractTwiceTakesNothingMoreRow : OpenClaim := { program := "qxb6605408a", sum := "5695258cd9ac35c2dc95dd994d0c95e7cc02d52eda69b55808db008e23edd916", func := "example.com/amends/amends/zzlaws_pkg_logic_b1.FnAttractTwiceTakesNothingMore", spec := "fnAttractTwiceTakesNothingMore", apart := false }
def FnAttractTwiceTakesNothingMoreSaid : Prop := fnAttractTwiceTakesNothingMoreRow.holds Try.pinned (OpenSpec.ofChange fnAttractTwiceTakesNothingMoreSpec)

/-- ITS FALSE NEIGHBOUR: 'it returns false'. Refute it at one input. -/
def fnAttractTwiceTakesNothingMoreWrong : ChangeSpec := { name := "fnAttractTwiceTakesNothingMore", fn := fun _ => fun
  | [d1, d2, d3, d4] => { results := [.lit (.bool false)], args := [d1, d2, d3, d4] }
  | _ => none }
def FnAttractTwiceTakesNothingMoreWrongFalsely : Prop := fnAttractTwiceTakesNothingMoreRow.holds Try.pinned (OpenSpec.ofChange fnAttractTwiceTakesNothingMoreWrong)

/-- 'zzlaws_pkg_logic_b1.FnSolveDualGameSwapsTheWinner': WHATEVER THE INPUT: true; the input reads as it did. -/
def fnSolveDualGameSwapsTheWinnerSpec : ChangeSpec := { name := "fnSolveDualGameSwapsTheWinner", fn := fun _ => fun
  | [d1, d2, d3] => { results := [.lit (.bool true)], args := [d1, d2, d3] }
  | _ => none }
def fnSolveDualGameSwapsTheWinnerRow : OpenClaim := { program := "qxb6605408a", sum := "5695258cd9ac35c2dc95dd994d0c95e7cc02d52eda69b55808db008e23edd916", func := "example.com/amends/amends/zzlaws_pkg_logic_b1.FnSolveDualGameSwapsTheWinner", spec := "fnSolveDualGameSwapsTheWinner", recurses := true, apart := false }
def FnSolveDualGameSwapsTheWinnerSaid : Prop := fnSolveDualGameSwapsTheWinnerRow.holds Try.pinned (OpenSpec.ofChange fnSolveDualGameSwapsTheWinnerSpec)

/-- ITS FALSE NEIGHBOUR: 'it returns false'. Refute it at one input. -/
def fnSolveDualGameSwapsTheWinnerWrong : ChangeSpec := { name := "fnSolveDualGameSwapsTheWinner", fn := fun _ => fun
  | [d1, d2, d3] => { results := [.lit (.bool false)], args := [d1, d2, d3] }
  | _ => none }
def FnSolveDualGameSwapsTheWinnerWrongFalsely : Prop := fnSolveDualGameSwapsTheWinnerRow.holds Try.pinned (OpenSpec.ofChange fnSolveDualGameSwapsTheWinnerWrong)

end Rows
end Go.Proofs.Qxb6605408a
