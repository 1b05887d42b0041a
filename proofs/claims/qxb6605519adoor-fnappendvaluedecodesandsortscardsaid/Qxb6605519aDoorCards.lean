/-
  DERIVED. GIVEN WITH THE SEED: THE CARDS: each row of Qxb6605519aDoorRows.lean that lists a variable, with what it lists TIED to the program's text (the seventh form; the later family's looks); each row that meets fmt, with fmt's text TOLD by the authors' own Lean function (tested against real Go, not proved from fmt's source: count such statements apart). THE CARD IS WHAT COUNTS. Prove the row's statement (the work); the ties are given (Qxb6605519aDoorTie.lean); close each card by the builder's one call (the guide's Derived/Test/ToyasCard.lean, 'card_holds'). Laid BY PROGRAM, IN A SANDBOX (cutbox-door.mjs). By AI agents, Wed Nov 11 2026. No macro, syntax, notation, axiom, sorry.
-/
import Derived.Test.Qxb6605519aDoorRows
import GoSem.ClaimSeven
namespace Go.Proofs.Qxb6605519aDoor
namespace Rows

/-- THE TIED CARD OF 'zzlaws_internal_inventory_b1.FnAppendValueDecodesAndSorts'. -/
def fnAppendValueDecodesAndSortsCard : Claim7 := { stood := { row := fnAppendValueDecodesAndSortsRow, standIns := [], harness := (true, "d95fecc249c3bbb4b7636a30fd27ebe4be22dea6985b5d6770d212ae49195565"), looks := false }, kinds := [], alts := [], laidByText := true, laidKinds := [.data, .data, .data], laidTests := true, laidLooks := .later }
def FnAppendValueDecodesAndSortsCardSaid : Prop := Claim7.holds Tryd.pinned (.plain (OpenSpec.ofChange fnAppendValueDecodesAndSortsSpec)) fnAppendValueDecodesAndSortsCard
end Rows
end Go.Proofs.Qxb6605519aDoor
