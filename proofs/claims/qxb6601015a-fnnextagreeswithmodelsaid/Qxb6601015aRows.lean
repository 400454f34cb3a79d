/-
  No cell of these rows narrows 'for every input' (looked for: loops, veiled, ifaces, maps, wideKeys, modest, calm, conditions, laid).
  DERIVED. THE GIVEN ROWS OF THIS SEAT. 8 by the template 'for every input the law returns true; each argument reads behind the call as it read before'; 0 by the template 'total and deterministic' (their statements: Qxb6601015aTotals.lean).
  GIVEN WITH THE SEED: the statements are not yours to turn. If you find one false, say at which input.
  Laid BY PROGRAM, IN A SANDBOX (cutbox-rows.mjs): the forced cells as the released guide's own fill.sh prints them over the translation 046c12a6120b82b5… (all of the seat's roots in one cut). By AI agents, Wed Nov 11 2026. No macro, syntax, notation, axiom, sorry.
-/
import Derived.Test.Qxb6601015aChecked
import GoSem.Claim
import GoSem.ClaimJoined
import GoSem.ClaimMapViews
import Derived.JoinedTies
import Derived.KernelRfl
namespace Go.Proofs.Qxb6601015a
/- THE CELL 'sum', in the pinned program and in every row, IS THE sha256 OF THE DUMP (.gsa) THAT Qxb6601015aProg.lean LOADS. Nothing in Lean hashes anything: it is a label: what it is worth is what the hold of that sum in a sandbox is worth. -/
noncomputable def Try.pinned : Pinned := { name := "qxb6601015a", sum := "046c12a6120b82b5274db338fc5e13aa075fbebad5d399d2f3b156268a63cba9", checked := Try.checked }
namespace Rows
def none {H : Type} : Left H := { results := [], args := [] }

/-- 'zzlaws_internal_syntax_b1.FnNextAgreesWithModel': WHATEVER THE INPUT: true; the input reads as it did. -/
def fnNextAgreesWithModelSpec : ChangeSpec := { name := "fnNextAgreesWithModel", fn := fun _ => fun
  | [d1, d2] => { results := [.lit (.bool true)], args := [d1, d2] }
  | _ => none }
def fnNextAgreesWithModelRow : OpenClaim := { program := "qxb6601015a", sum := "046c12a6120b82b5274db338fc5e13aa075fbebad5d399d2f3b156268a63cba9", func := "example.com/palimpsest/palimpsest/zzlaws_internal_syntax_b1.FnNextAgreesWithModel", spec := "fnNextAgreesWithModel", inPlace := ["internal/bytealg.IndexByteString"], apart := false }
def FnNextAgreesWithModelSaid : Prop := fnNextAgreesWithModelRow.holds Try.pinned (OpenSpec.ofChange fnNextAgreesWithModelSpec)

/-- ITS FALSE NEIGHBOUR: 'it returns false'. Refute it at one input. -/
def fnNextAgreesWithModelWrong : ChangeSpec := { name := "fnNextAgreesWithModel", fn := fun _ => fun
  | [d1, d2] => { results := [.lit (.bool false)], args := [d1, d2] }
  | _ => none }
def FnNextAgreesWithModelWrongFalsely : Prop := fnNextAgreesWithModelRow.holds Try.pinned (OpenSpec.ofChange fnNextAgreesWithModelWrong)

/-- 'zzlaws_internal_syntax_b1.FnSkipSpaceAgreesWithModel': WHATEVER THE INPUT: true; the input reads as it did. -/
def fnSkipSpaceAgreesWithModelSpec : ChangeSpec := { name := "fnSkipSpaceAgreesWithModel", fn := fun _ => fun
  | [d1, d2] => { results := [.lit (.bool true)], args := [d1, d2] }
  | _ => none }
def fnSkipSpaceAgreesWithModelRow : OpenClaim := { program := "qxb6601015a", sum := "046c12a6120b82b5274db338fc5e13aa075fbebad5d399d2f3b156268a63cba9", func := "example.com/palimpsest/palimpsest/zzlaws_internal_syntax_b1.FnSkipSpaceAgreesWithModel", spec := "fnSkipSpaceAgreesWithModel", inPlace := ["internal/bytealg.IndexByteString"], apart := false }
def FnSkipSpaceAgreesWithModelSaid : Prop := fnSkipSpaceAgreesWithModelRow.holds Try.pinned (OpenSpec.ofChange fnSkipSpaceAgreesWithModelSpec)

/-- ITS FALSE NEIGHBOUR: 'it returns false'. Refute it at one input. -/
def fnSkipSpaceAgreesWithModelWrong : ChangeSpec := { name := "fnSkipSpaceAgreesWithModel", fn := fun _ => fun
  | [d1, d2] => { results := [.lit (.bool false)], args := [d1, d2] }
  | _ => none }
def FnSkipSpaceAgreesWithModelWrongFalsely : Prop := fnSkipSpaceAgreesWithModelRow.holds Try.pinned (OpenSpec.ofChange fnSkipSpaceAgreesWithModelWrong)

/-- 'zzlaws_internal_syntax_b1.FnSkipSpaceBlankInsertionShifts': WHATEVER THE INPUT: true; the input reads as it did. -/
def fnSkipSpaceBlankInsertionShiftsSpec : ChangeSpec := { name := "fnSkipSpaceBlankInsertionShifts", fn := fun _ => fun
  | [d1, d2, d3] => { results := [.lit (.bool true)], args := [d1, d2, d3] }
  | _ => none }
def fnSkipSpaceBlankInsertionShiftsRow : OpenClaim := { program := "qxb6601015a", sum := "046c12a6120b82b5274db338fc5e13aa075fbebad5d399d2f3b156268a63cba9", func := "example.com/palimpsest/palimpsest/zzlaws_internal_syntax_b1.FnSkipSpaceBlankInsertionShifts", spec := "fnSkipSpaceBlankInsertionShifts", inPlace := ["internal/bytealg.IndexByteString"], apart := false }
def FnSkipSpaceBlankInsertionShiftsSaid : Prop := fnSkipSpaceBlankInsertionShiftsRow.holds Try.pinned (OpenSpec.ofChange fnSkipSpaceBlankInsertionShiftsSpec)

/-- ITS FALSE NEIGHBOUR: 'it returns false'. Refute it at one input. -/
def fnSkipSpaceBlankInsertionShiftsWrong : ChangeSpec := { name := "fnSkipSpaceBlankInsertionShifts", fn := fun _ => fun
  | [d1, d2, d3] => { results := [.lit (.bool false)], args := [d1, d2, d3] }
  | _ => none }
def FnSkipSpaceBlankInsertionShiftsWrongFalsely : Prop := fnSkipSpaceBlankInsertionShiftsRow.holds Try.pinned (OpenSpec.ofChange fnSkipSpaceBlankInsertionShiftsWrong)

/-- 'zzlaws_internal_syntax_b1.FnSkipSpaceIdempotentAndBlindToPrefix': WHATEVER THE INPUT: true; the input reads as it did. -/
def fnSkipSpaceIdempotentAndBlindToPrefixSpec : ChangeSpec := { name := "fnSkipSpaceIdempotentAndBlindToPrefix", fn := fun _ => fun
  | [d1, d2, d3] => { results := [.lit (.bool true)], args := [d1, d2, d3] }
  | _ => none }
def fnSkipSpaceIdempotentAndBlindToPrefixRow : OpenClaim := { program := "qxb6601015a", sum := "046c12a6120b82b5274db338fc5e13aa075fbebad5d399d2f3b156268a63cba9", func := "example.com/palimpsest/palimpsest/zzlaws_internal_syntax_b1.FnSkipSpaceIdempotentAndBlindToPrefix", spec := "fnSkipSpaceIdempotentAndBlindToPrefix", inPlace := ["internal/bytealg.IndexByteString"], apart := false }
def FnSkipSpaceIdempotentAndBlindToPrefixSaid : Prop := fnSkipSpaceIdempotentAndBlindToPrefixRow.holds Try.pinned (OpenSpec.ofChange fnSkipSpaceIdempotentAndBlindToPrefixSpec)

/-- ITS FALSE NEIGHBOUR: 'it returns false'. Refute it at one input. -/
def fnSkipSpaceIdempotentAndBlindToPrefixWrong : ChangeSpec := { name := "fnSkipSpaceIdempotentAndBlindToPrefix", fn := fun _ => fun
  | [d1, d2, d3] => { results := [.lit (.bool false)], args := [d1, d2, d3] }
  | _ => none }
def FnSkipSpaceIdempotentAndBlindToPrefixWrongFalsely : Prop := fnSkipSpaceIdempotentAndBlindToPrefixRow.holds Try.pinned (OpenSpec.ofChange fnSkipSpaceIdempotentAndBlindToPrefixWrong)

/-- 'zzlaws_internal_syntax_b1.FnScanNumberAgreesWithAutomaton': WHATEVER THE INPUT: true; the input reads as it did. -/
def fnScanNumberAgreesWithAutomatonSpec : ChangeSpec := { name := "fnScanNumberAgreesWithAutomaton", fn := fun _ => fun
  | [d1, d2] => { results := [.lit (.bool true)], args := [d1, d2] }
  | _ => none }
def fnScanNumberAgreesWithAutomatonRow : OpenClaim := { program := "qxb6601015a", sum := "046c12a6120b82b5274db338fc5e13aa075fbebad5d399d2f3b156268a63cba9", func := "example.com/palimpsest/palimpsest/zzlaws_internal_syntax_b1.FnScanNumberAgreesWithAutomaton", spec := "fnScanNumberAgreesWithAutomaton", apart := false }
def FnScanNumberAgreesWithAutomatonSaid : Prop := fnScanNumberAgreesWithAutomatonRow.holds Try.pinned (OpenSpec.ofChange fnScanNumberAgreesWithAutomatonSpec)

/-- ITS FALSE NEIGHBOUR: 'it returns false'. Refute it at one input. -/
def fnScanNumberAgreesWithAutomatonWrong : ChangeSpec := { name := "fnScanNumberAgreesWithAutomaton", fn := fun _ => fun
  | [d1, d2] => { results := [.lit (.bool false)], args := [d1, d2] }
  | _ => none }
def FnScanNumberAgreesWithAutomatonWrongFalsely : Prop := fnScanNumberAgreesWithAutomatonRow.holds Try.pinned (OpenSpec.ofChange fnScanNumberAgreesWithAutomatonWrong)

/-- 'zzlaws_internal_syntax_b1.FnScanNumberRescansOwnText': WHATEVER THE INPUT: true; the input reads as it did. -/
def fnScanNumberRescansOwnTextSpec : ChangeSpec := { name := "fnScanNumberRescansOwnText", fn := fun _ => fun
  | [d1, d2, d3] => { results := [.lit (.bool true)], args := [d1, d2, d3] }
  | _ => none }
def fnScanNumberRescansOwnTextRow : OpenClaim := { program := "qxb6601015a", sum := "046c12a6120b82b5274db338fc5e13aa075fbebad5d399d2f3b156268a63cba9", func := "example.com/palimpsest/palimpsest/zzlaws_internal_syntax_b1.FnScanNumberRescansOwnText", spec := "fnScanNumberRescansOwnText", apart := false }
def FnScanNumberRescansOwnTextSaid : Prop := fnScanNumberRescansOwnTextRow.holds Try.pinned (OpenSpec.ofChange fnScanNumberRescansOwnTextSpec)

/-- ITS FALSE NEIGHBOUR: 'it returns false'. Refute it at one input. -/
def fnScanNumberRescansOwnTextWrong : ChangeSpec := { name := "fnScanNumberRescansOwnText", fn := fun _ => fun
  | [d1, d2, d3] => { results := [.lit (.bool false)], args := [d1, d2, d3] }
  | _ => none }
def FnScanNumberRescansOwnTextWrongFalsely : Prop := fnScanNumberRescansOwnTextRow.holds Try.pinned (OpenSpec.ofChange fnScanNumberRescansOwnTextWrong)

/-- 'zzlaws_internal_syntax_b1.FnNextTokensTileInput': WHATEVER THE INPUT: true; the input reads as it did. -/
def fnNextTokensTileInputSpec : ChangeSpec := { name := "fnNextTokensTileInput", fn := fun _ => fun
  | [d] => { results := [.lit (.bool true)], args := [d] }
  | _ => none }
def fnNextTokensTileInputRow : OpenClaim := { program := "qxb6601015a", sum := "046c12a6120b82b5274db338fc5e13aa075fbebad5d399d2f3b156268a63cba9", func := "example.com/palimpsest/palimpsest/zzlaws_internal_syntax_b1.FnNextTokensTileInput", spec := "fnNextTokensTileInput", inPlace := ["internal/bytealg.IndexByteString"], apart := false }
def FnNextTokensTileInputSaid : Prop := fnNextTokensTileInputRow.holds Try.pinned (OpenSpec.ofChange fnNextTokensTileInputSpec)

/-- ITS FALSE NEIGHBOUR: 'it returns false'. Refute it at one input. -/
def fnNextTokensTileInputWrong : ChangeSpec := { name := "fnNextTokensTileInput", fn := fun _ => fun
  | [d] => { results := [.lit (.bool false)], args := [d] }
  | _ => none }
def FnNextTokensTileInputWrongFalsely : Prop := fnNextTokensTileInputRow.holds Try.pinned (OpenSpec.ofChange fnNextTokensTileInputWrong)

/-- 'zzlaws_internal_syntax_b1.FnNextTokenRelexesAlone': WHATEVER THE INPUT: true; the input reads as it did. -/
def fnNextTokenRelexesAloneSpec : ChangeSpec := { name := "fnNextTokenRelexesAlone", fn := fun _ => fun
  | [d1, d2] => { results := [.lit (.bool true)], args := [d1, d2] }
  | _ => none }
def fnNextTokenRelexesAloneRow : OpenClaim := { program := "qxb6601015a", sum := "046c12a6120b82b5274db338fc5e13aa075fbebad5d399d2f3b156268a63cba9", func := "example.com/palimpsest/palimpsest/zzlaws_internal_syntax_b1.FnNextTokenRelexesAlone", spec := "fnNextTokenRelexesAlone", inPlace := ["internal/bytealg.IndexByteString"], apart := false }
def FnNextTokenRelexesAloneSaid : Prop := fnNextTokenRelexesAloneRow.holds Try.pinned (OpenSpec.ofChange fnNextTokenRelexesAloneSpec)

/-- ITS FALSE NEIGHBOUR: 'it returns false'. Refute it at one input. -/
def fnNextTokenRelexesAloneWrong : ChangeSpec := { name := "fnNextTokenRelexesAlone", fn := fun _ => fun
  | [d1, d2] => { results := [.lit (.bool false)], args := [d1, d2] }
  | _ => none }
def FnNextTokenRelexesAloneWrongFalsely : Prop := fnNextTokenRelexesAloneRow.holds Try.pinned (OpenSpec.ofChange fnNextTokenRelexesAloneWrong)

end Rows
end Go.Proofs.Qxb6601015a
