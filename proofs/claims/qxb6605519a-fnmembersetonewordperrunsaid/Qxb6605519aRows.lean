/-
  No cell of these rows narrows 'for every input' (looked for: loops, veiled, ifaces, maps, wideKeys, modest, calm, conditions, laid).
  DERIVED. THE GIVEN ROWS OF THIS SEAT. 2 by the template 'for every input the law returns true; each argument reads behind the call as it read before'; 0 by the template 'total and deterministic' (their statements: Qxb6605519aTotals.lean).
  GIVEN WITH THE SEED: the statements are not yours to turn. If you find one false, say at which input.
  Laid BY PROGRAM, IN A SANDBOX (cutbox-rows.mjs): the forced cells as the released guide's own fill.sh prints them over the translation ad0054a93936c2c3… (all of the seat's roots in one cut). By AI agents, Wed Nov 11 2026. No macro, syntax, notation, axiom, sorry.
-/
import Derived.Test.Qxb6605519aChecked
import GoSem.Claim
import GoSem.ClaimJoined
import GoSem.ClaimMapViews
import Derived.JoinedTies
import Derived.KernelRfl
namespace Go.Proofs.Qxb6605519a
/- THE CELL 'sum', in the pinned program and in every row, IS THE sha256 OF THE DUMP (.gsa) THAT Qxb6605519aProg.lean LOADS. Nothing in Lean hashes anything: it is a label: what it is worth is what the hold of that sum in a sandbox is worth. -/
noncomputable def Try.pinned : Pinned := { name := "qxb6605519a", sum := "ad0054a93936c2c3872c2a30f9cda3444f06c996ae045b7da669602e5dcfb4e1", checked := Try.checked }
namespace Rows
def none {H : Type} : Left H := { results := [], args := [] }

/-- 'zzlaws_internal_inventory_b1.FnMemberSetAddReportsNew': WHATEVER THE INPUT: true; the input reads as it did. -/
def fnMemberSetAddReportsNewSpec : ChangeSpec := { name := "fnMemberSetAddReportsNew", fn := fun _ => fun
  | [d] => { results := [.lit (.bool true)], args := [d] }
  | _ => none }
def fnMemberSetAddReportsNewRow : OpenClaim := { program := "qxb6605519a", sum := "ad0054a93936c2c3872c2a30f9cda3444f06c996ae045b7da669602e5dcfb4e1", func := "example.com/nodewright/nodewright/zzlaws_internal_inventory_b1.FnMemberSetAddReportsNew", spec := "fnMemberSetAddReportsNew", plainKeys := false, apart := false }
def FnMemberSetAddReportsNewSaid : Prop := fnMemberSetAddReportsNewRow.holds Try.pinned (OpenSpec.ofChange fnMemberSetAddReportsNewSpec)

/-- ITS FALSE NEIGHBOUR: 'it returns false'. Refute it at one input. -/
def fnMemberSetAddReportsNewWrong : ChangeSpec := { name := "fnMemberSetAddReportsNew", fn := fun _ => fun
  | [d] => { results := [.lit (.bool false)], args := [d] }
  | _ => none }
def FnMemberSetAddReportsNewWrongFalsely : Prop := fnMemberSetAddReportsNewRow.holds Try.pinned (OpenSpec.ofChange fnMemberSetAddReportsNewWrong)

/-- 'zzlaws_internal_inventory_b1.FnMemberSetOneWordPerRun': WHATEVER THE INPUT: true; the input reads as it did. -/
def fnMemberSetOneWordPerRunSpec : ChangeSpec := { name := "fnMemberSetOneWordPerRun", fn := fun _ => fun
  | [d] => { results := [.lit (.bool true)], args := [d] }
  | _ => none }
def fnMemberSetOneWordPerRunRow : OpenClaim := { program := "qxb6605519a", sum := "ad0054a93936c2c3872c2a30f9cda3444f06c996ae045b7da669602e5dcfb4e1", func := "example.com/nodewright/nodewright/zzlaws_internal_inventory_b1.FnMemberSetOneWordPerRun", spec := "fnMemberSetOneWordPerRun", plainKeys := false, apart := false }
def FnMemberSetOneWordPerRunSaid : Prop := fnMemberSetOneWordPerRunRow.holds Try.pinned (OpenSpec.ofChange fnMemberSetOneWordPerRunSpec)

/-- ITS FALSE NEIGHBOUR: 'it returns false'. Refute it at one input. -/
def fnMemberSetOneWordPerRunWrong : ChangeSpec := { name := "fnMemberSetOneWordPerRun", fn := fun _ => fun
  | [d] => { results := [.lit (.bool false)], args := [d] }
  | _ => none }
def FnMemberSetOneWordPerRunWrongFalsely : Prop := fnMemberSetOneWordPerRunRow.holds Try.pinned (OpenSpec.ofChange fnMemberSetOneWordPerRunWrong)

end Rows
end Go.Proofs.Qxb6605519a
