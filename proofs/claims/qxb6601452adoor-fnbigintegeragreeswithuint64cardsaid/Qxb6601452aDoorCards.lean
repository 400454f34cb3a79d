/-
  DERIVED. GIVEN WITH THE SEED: THE CARDS: each row of Qxb6601452aDoorRows.lean that lists a variable, with what it lists TIED to the program's text (the seventh form; the later family's looks); each row that meets fmt, with fmt's text TOLD by the authors' own Lean function (tested against real Go, not proved from fmt's source: count such statements apart). THE CARD IS WHAT COUNTS. Prove the row's statement (the work); the ties are given (Qxb6601452aDoorTie.lean); close each card by the builder's one call (the guide's Derived/Test/ToyasCard.lean, 'card_holds'). Laid BY PROGRAM, IN A SANDBOX (cutbox-door.mjs). By AI agents, Wed Nov 11 2026. No macro, syntax, notation, axiom, sorry.
-/
import Derived.Test.Qxb6601452aDoorRows
import GoSem.ClaimSeven
namespace Go.Proofs.Qxb6601452aDoor
namespace Rows

/-- THE TIED CARD OF 'zzlaws_internal_jcs_b1.FnBigIntegerCaseTable'. -/
def fnBigIntegerCaseTableCard : Claim7 := { stood := { row := fnBigIntegerCaseTableRow, standIns := [], harness := (true, "e6422c257e5548fdaa556217d7087998e4d5d638c17b5f6077775fed405b38aa"), looks := true }, kinds := [], alts := [], laidByText := true, laidKinds := [.data, .data, .data, .sentinel, .sentinel], laidTests := true, laidLooks := .later }
def FnBigIntegerCaseTableCardSaid : Prop := Claim7.holds Tryd.pinned (.plain (OpenSpec.ofChange fnBigIntegerCaseTableSpec)) fnBigIntegerCaseTableCard

/-- THE TIED CARD OF 'zzlaws_internal_jcs_b1.FnBigIntegerAgreesWithUint64'. -/
def fnBigIntegerAgreesWithUint64Card : Claim7 := { stood := { row := fnBigIntegerAgreesWithUint64Row, standIns := [], harness := (true, "e6422c257e5548fdaa556217d7087998e4d5d638c17b5f6077775fed405b38aa"), looks := true }, kinds := [], alts := [], laidByText := true, laidKinds := [.data, .data, .data, .sentinel, .sentinel], laidTests := true, laidLooks := .later }
def FnBigIntegerAgreesWithUint64CardSaid : Prop := Claim7.holds Tryd.pinned (.plain (OpenSpec.ofChange fnBigIntegerAgreesWithUint64Spec)) fnBigIntegerAgreesWithUint64Card
end Rows
end Go.Proofs.Qxb6601452aDoor
