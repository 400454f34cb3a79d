/-
  No cell of these rows narrows 'for every input' (looked for: loops, veiled, ifaces, maps, wideKeys, modest, calm, conditions, laid).
  DERIVED. THE GIVEN ROWS OF THIS SEAT. 6 by the template 'for every input the law returns true; each argument reads behind the call as it read before'; 0 by the template 'total and deterministic' (their statements: Qxb6601729aTotals.lean).
  GIVEN WITH THE SEED: the statements are not yours to turn. If you find one false, say at which input.
  Laid BY PROGRAM, IN A SANDBOX (cutbox-rows.mjs): the forced cells as the released guide's own fill.sh prints them over the translation cc948e273e26de09… (all of the seat's roots in one cut). By AI agents, Wed Nov 11 2026. No macro, syntax, notation, axiom, sorry.
-/
import Derived.Test.Qxb6601729aChecked
import GoSem.Claim
import GoSem.ClaimJoined
import GoSem.ClaimMapViews
import Derived.JoinedTies
import Derived.KernelRfl
namespace Go.Proofs.Qxb6601729a
/- THE CELL 'sum', in the pinned program and in every row, IS THE sha256 OF THE DUMP (.gsa) THAT Qxb6601729aProg.lean LOADS. Nothing in Lean hashes anything: it is a label: what it is worth is what the hold of that sum in a sandbox is worth. -/
noncomputable def Try.pinned : Pinned := { name := "qxb6601729a", sum := "cc948e273e26de090cd3ccbbd107bf827c6d41acd37669124247e53ec1cb7c9e", checked := Try.checked }
namespace Rows
def none {H : Type} : Left H := { results := [], args := [] }

/-- 'zzlaws_internal_tomlfile_b1.FnQuotedMatchesParityModel': WHATEVER THE INPUT: true; the input reads as it did. -/
def fnQuotedMatchesParityModelSpec : ChangeSpec := { name := "fnQuotedMatchesParityModel", fn := fun _ => fun
  | [d1, d2, d3, d4] => { results := [.lit (.bool true)], args := [d1, d2, d3, d4] }
  | _ => none }
def fnQuotedMatchesParityModelRow : OpenClaim := { program := "qxb6601729a", sum := "cc948e273e26de090cd3ccbbd107bf827c6d41acd37669124247e53ec1cb7c9e", func := "example.com/vestwright/vestwright/zzlaws_internal_tomlfile_b1.FnQuotedMatchesParityModel", spec := "fnQuotedMatchesParityModel", apart := false }
def FnQuotedMatchesParityModelSaid : Prop := fnQuotedMatchesParityModelRow.holds Try.pinned (OpenSpec.ofChange fnQuotedMatchesParityModelSpec)

/-- ITS FALSE NEIGHBOUR: 'it returns false'. Refute it at one input. -/
def fnQuotedMatchesParityModelWrong : ChangeSpec := { name := "fnQuotedMatchesParityModel", fn := fun _ => fun
  | [d1, d2, d3, d4] => { results := [.lit (.bool false)], args := [d1, d2, d3, d4] }
  | _ => none }
def FnQuotedMatchesParityModelWrongFalsely : Prop := fnQuotedMatchesParityModelRow.holds Try.pinned (OpenSpec.ofChange fnQuotedMatchesParityModelWrong)

/-- 'zzlaws_internal_tomlfile_b1.FnQuotedOnPrefixEndsAtLesser': WHATEVER THE INPUT: true; the input reads as it did. -/
def fnQuotedOnPrefixEndsAtLesserSpec : ChangeSpec := { name := "fnQuotedOnPrefixEndsAtLesser", fn := fun _ => fun
  | [d1, d2, d3, d4, d5] => { results := [.lit (.bool true)], args := [d1, d2, d3, d4, d5] }
  | _ => none }
def fnQuotedOnPrefixEndsAtLesserRow : OpenClaim := { program := "qxb6601729a", sum := "cc948e273e26de090cd3ccbbd107bf827c6d41acd37669124247e53ec1cb7c9e", func := "example.com/vestwright/vestwright/zzlaws_internal_tomlfile_b1.FnQuotedOnPrefixEndsAtLesser", spec := "fnQuotedOnPrefixEndsAtLesser", apart := false }
def FnQuotedOnPrefixEndsAtLesserSaid : Prop := fnQuotedOnPrefixEndsAtLesserRow.holds Try.pinned (OpenSpec.ofChange fnQuotedOnPrefixEndsAtLesserSpec)

/-- ITS FALSE NEIGHBOUR: 'it returns false'. Refute it at one input. -/
def fnQuotedOnPrefixEndsAtLesserWrong : ChangeSpec := { name := "fnQuotedOnPrefixEndsAtLesser", fn := fun _ => fun
  | [d1, d2, d3, d4, d5] => { results := [.lit (.bool false)], args := [d1, d2, d3, d4, d5] }
  | _ => none }
def FnQuotedOnPrefixEndsAtLesserWrongFalsely : Prop := fnQuotedOnPrefixEndsAtLesserRow.holds Try.pinned (OpenSpec.ofChange fnQuotedOnPrefixEndsAtLesserWrong)

/-- 'zzlaws_internal_tomlfile_b1.FnSkipSpaceMatchesCommentModel': WHATEVER THE INPUT: true; the input reads as it did. -/
def fnSkipSpaceMatchesCommentModelSpec : ChangeSpec := { name := "fnSkipSpaceMatchesCommentModel", fn := fun _ => fun
  | [d1, d2] => { results := [.lit (.bool true)], args := [d1, d2] }
  | _ => none }
def fnSkipSpaceMatchesCommentModelRow : OpenClaim := { program := "qxb6601729a", sum := "cc948e273e26de090cd3ccbbd107bf827c6d41acd37669124247e53ec1cb7c9e", func := "example.com/vestwright/vestwright/zzlaws_internal_tomlfile_b1.FnSkipSpaceMatchesCommentModel", spec := "fnSkipSpaceMatchesCommentModel", inPlace := ["internal/bytealg.IndexByteString"], apart := false }
def FnSkipSpaceMatchesCommentModelSaid : Prop := fnSkipSpaceMatchesCommentModelRow.holds Try.pinned (OpenSpec.ofChange fnSkipSpaceMatchesCommentModelSpec)

/-- ITS FALSE NEIGHBOUR: 'it returns false'. Refute it at one input. -/
def fnSkipSpaceMatchesCommentModelWrong : ChangeSpec := { name := "fnSkipSpaceMatchesCommentModel", fn := fun _ => fun
  | [d1, d2] => { results := [.lit (.bool false)], args := [d1, d2] }
  | _ => none }
def FnSkipSpaceMatchesCommentModelWrongFalsely : Prop := fnSkipSpaceMatchesCommentModelRow.holds Try.pinned (OpenSpec.ofChange fnSkipSpaceMatchesCommentModelWrong)

/-- 'zzlaws_internal_tomlfile_b1.FnSkipSpaceStopsOnTokenAndIsIdempotent': WHATEVER THE INPUT: true; the input reads as it did. -/
def fnSkipSpaceStopsOnTokenAndIsIdempotentSpec : ChangeSpec := { name := "fnSkipSpaceStopsOnTokenAndIsIdempotent", fn := fun _ => fun
  | [d1, d2] => { results := [.lit (.bool true)], args := [d1, d2] }
  | _ => none }
def fnSkipSpaceStopsOnTokenAndIsIdempotentRow : OpenClaim := { program := "qxb6601729a", sum := "cc948e273e26de090cd3ccbbd107bf827c6d41acd37669124247e53ec1cb7c9e", func := "example.com/vestwright/vestwright/zzlaws_internal_tomlfile_b1.FnSkipSpaceStopsOnTokenAndIsIdempotent", spec := "fnSkipSpaceStopsOnTokenAndIsIdempotent", inPlace := ["internal/bytealg.IndexByteString"], apart := false }
def FnSkipSpaceStopsOnTokenAndIsIdempotentSaid : Prop := fnSkipSpaceStopsOnTokenAndIsIdempotentRow.holds Try.pinned (OpenSpec.ofChange fnSkipSpaceStopsOnTokenAndIsIdempotentSpec)

/-- ITS FALSE NEIGHBOUR: 'it returns false'. Refute it at one input. -/
def fnSkipSpaceStopsOnTokenAndIsIdempotentWrong : ChangeSpec := { name := "fnSkipSpaceStopsOnTokenAndIsIdempotent", fn := fun _ => fun
  | [d1, d2] => { results := [.lit (.bool false)], args := [d1, d2] }
  | _ => none }
def FnSkipSpaceStopsOnTokenAndIsIdempotentWrongFalsely : Prop := fnSkipSpaceStopsOnTokenAndIsIdempotentRow.holds Try.pinned (OpenSpec.ofChange fnSkipSpaceStopsOnTokenAndIsIdempotentWrong)

/-- 'zzlaws_internal_tomlfile_b1.FnNewByteSetIsMembership': WHATEVER THE INPUT: true; the input reads as it did. -/
def fnNewByteSetIsMembershipSpec : ChangeSpec := { name := "fnNewByteSetIsMembership", fn := fun _ => fun
  | [d] => { results := [.lit (.bool true)], args := [d] }
  | _ => none }
def fnNewByteSetIsMembershipRow : OpenClaim := { program := "qxb6601729a", sum := "cc948e273e26de090cd3ccbbd107bf827c6d41acd37669124247e53ec1cb7c9e", func := "example.com/vestwright/vestwright/zzlaws_internal_tomlfile_b1.FnNewByteSetIsMembership", spec := "fnNewByteSetIsMembership", apart := false }
def FnNewByteSetIsMembershipSaid : Prop := fnNewByteSetIsMembershipRow.holds Try.pinned (OpenSpec.ofChange fnNewByteSetIsMembershipSpec)

/-- ITS FALSE NEIGHBOUR: 'it returns false'. Refute it at one input. -/
def fnNewByteSetIsMembershipWrong : ChangeSpec := { name := "fnNewByteSetIsMembership", fn := fun _ => fun
  | [d] => { results := [.lit (.bool false)], args := [d] }
  | _ => none }
def FnNewByteSetIsMembershipWrongFalsely : Prop := fnNewByteSetIsMembershipRow.holds Try.pinned (OpenSpec.ofChange fnNewByteSetIsMembershipWrong)

/-- 'zzlaws_internal_tomlfile_b1.FnNewByteSetOfConcatenationIsUnion': WHATEVER THE INPUT: true; the input reads as it did. -/
def fnNewByteSetOfConcatenationIsUnionSpec : ChangeSpec := { name := "fnNewByteSetOfConcatenationIsUnion", fn := fun _ => fun
  | [d1, d2] => { results := [.lit (.bool true)], args := [d1, d2] }
  | _ => none }
def fnNewByteSetOfConcatenationIsUnionRow : OpenClaim := { program := "qxb6601729a", sum := "cc948e273e26de090cd3ccbbd107bf827c6d41acd37669124247e53ec1cb7c9e", func := "example.com/vestwright/vestwright/zzlaws_internal_tomlfile_b1.FnNewByteSetOfConcatenationIsUnion", spec := "fnNewByteSetOfConcatenationIsUnion", apart := false }
def FnNewByteSetOfConcatenationIsUnionSaid : Prop := fnNewByteSetOfConcatenationIsUnionRow.holds Try.pinned (OpenSpec.ofChange fnNewByteSetOfConcatenationIsUnionSpec)

/-- ITS FALSE NEIGHBOUR: 'it returns false'. Refute it at one input. -/
def fnNewByteSetOfConcatenationIsUnionWrong : ChangeSpec := { name := "fnNewByteSetOfConcatenationIsUnion", fn := fun _ => fun
  | [d1, d2] => { results := [.lit (.bool false)], args := [d1, d2] }
  | _ => none }
def FnNewByteSetOfConcatenationIsUnionWrongFalsely : Prop := fnNewByteSetOfConcatenationIsUnionRow.holds Try.pinned (OpenSpec.ofChange fnNewByteSetOfConcatenationIsUnionWrong)

end Rows
end Go.Proofs.Qxb6601729a
