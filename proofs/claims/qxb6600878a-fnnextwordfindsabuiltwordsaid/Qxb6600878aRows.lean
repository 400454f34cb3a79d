/-
  No cell of these rows narrows 'for every input' (looked for: loops, veiled, ifaces, maps, wideKeys, modest, calm, conditions, laid).
  DERIVED. THE GIVEN ROWS OF THIS SEAT. 4 by the template 'for every input the law returns true; each argument reads behind the call as it read before'; 0 by the template 'total and deterministic' (their statements: Qxb6600878aTotals.lean).
  GIVEN WITH THE SEED: the statements are not yours to turn. If you find one false, say at which input.
  Laid BY PROGRAM, IN A SANDBOX (cutbox-rows.mjs): the forced cells as the released guide's own fill.sh prints them over the translation 5d06b7e412a04123… (all of the seat's roots in one cut). By AI agents, Wed Nov 11 2026. No macro, syntax, notation, axiom, sorry.
-/
import Derived.Test.Qxb6600878aChecked
import GoSem.Claim
import GoSem.ClaimJoined
import GoSem.ClaimMapViews
import Derived.JoinedTies
import Derived.KernelRfl
namespace Go.Proofs.Qxb6600878a
/- THE CELL 'sum', in the pinned program and in every row, IS THE sha256 OF THE DUMP (.gsa) THAT Qxb6600878aProg.lean LOADS. Nothing in Lean hashes anything: it is a label: what it is worth is what the hold of that sum in a sandbox is worth. -/
noncomputable def Try.pinned : Pinned := { name := "qxb6600878a", sum := "5d06b7e412a04123fd860c34a6135de7be2efda4528d8ee455c9f8e4d07b226a", checked := Try.checked }
namespace Rows
def none {H : Type} : Left H := { results := [], args := [] }

/-- 'zzlaws_internal_header_b1.FnNextWordMatchesAutomaton': WHATEVER THE INPUT: true; the input reads as it did. -/
def fnNextWordMatchesAutomatonSpec : ChangeSpec := { name := "fnNextWordMatchesAutomaton", fn := fun _ => fun
  | [d1, d2] => { results := [.lit (.bool true)], args := [d1, d2] }
  | _ => none }
def fnNextWordMatchesAutomatonRow : OpenClaim := { program := "qxb6600878a", sum := "5d06b7e412a04123fd860c34a6135de7be2efda4528d8ee455c9f8e4d07b226a", func := "example.com/heliograph/heliograph/zzlaws_internal_header_b1.FnNextWordMatchesAutomaton", spec := "fnNextWordMatchesAutomaton", inPlace := ["internal/bytealg.IndexByteString", "internal/bytealg.IndexString"], named := ["internal/bytealg.MaxLen"], apart := false }
def FnNextWordMatchesAutomatonSaid : Prop := fnNextWordMatchesAutomatonRow.holds Try.pinned (OpenSpec.ofChange fnNextWordMatchesAutomatonSpec)

/-- ITS FALSE NEIGHBOUR: 'it returns false'. Refute it at one input. -/
def fnNextWordMatchesAutomatonWrong : ChangeSpec := { name := "fnNextWordMatchesAutomaton", fn := fun _ => fun
  | [d1, d2] => { results := [.lit (.bool false)], args := [d1, d2] }
  | _ => none }
def FnNextWordMatchesAutomatonWrongFalsely : Prop := fnNextWordMatchesAutomatonRow.holds Try.pinned (OpenSpec.ofChange fnNextWordMatchesAutomatonWrong)

/-- 'zzlaws_internal_header_b1.FnNextWordIgnoresWhatLiesBeforeFrom': WHATEVER THE INPUT: true; the input reads as it did. -/
def fnNextWordIgnoresWhatLiesBeforeFromSpec : ChangeSpec := { name := "fnNextWordIgnoresWhatLiesBeforeFrom", fn := fun _ => fun
  | [d1, d2, d3] => { results := [.lit (.bool true)], args := [d1, d2, d3] }
  | _ => none }
def fnNextWordIgnoresWhatLiesBeforeFromRow : OpenClaim := { program := "qxb6600878a", sum := "5d06b7e412a04123fd860c34a6135de7be2efda4528d8ee455c9f8e4d07b226a", func := "example.com/heliograph/heliograph/zzlaws_internal_header_b1.FnNextWordIgnoresWhatLiesBeforeFrom", spec := "fnNextWordIgnoresWhatLiesBeforeFrom", inPlace := ["internal/bytealg.IndexByteString", "internal/bytealg.IndexString"], named := ["internal/bytealg.MaxLen"], apart := false }
def FnNextWordIgnoresWhatLiesBeforeFromSaid : Prop := fnNextWordIgnoresWhatLiesBeforeFromRow.holds Try.pinned (OpenSpec.ofChange fnNextWordIgnoresWhatLiesBeforeFromSpec)

/-- ITS FALSE NEIGHBOUR: 'it returns false'. Refute it at one input. -/
def fnNextWordIgnoresWhatLiesBeforeFromWrong : ChangeSpec := { name := "fnNextWordIgnoresWhatLiesBeforeFrom", fn := fun _ => fun
  | [d1, d2, d3] => { results := [.lit (.bool false)], args := [d1, d2, d3] }
  | _ => none }
def FnNextWordIgnoresWhatLiesBeforeFromWrongFalsely : Prop := fnNextWordIgnoresWhatLiesBeforeFromRow.holds Try.pinned (OpenSpec.ofChange fnNextWordIgnoresWhatLiesBeforeFromWrong)

/-- 'zzlaws_internal_header_b1.FnNextWordFindsABuiltWord': WHATEVER THE INPUT: true; the input reads as it did. -/
def fnNextWordFindsABuiltWordSpec : ChangeSpec := { name := "fnNextWordFindsABuiltWord", fn := fun _ => fun
  | [d1, d2, d3, d4, d5, d6] => { results := [.lit (.bool true)], args := [d1, d2, d3, d4, d5, d6] }
  | _ => none }
def fnNextWordFindsABuiltWordRow : OpenClaim := { program := "qxb6600878a", sum := "5d06b7e412a04123fd860c34a6135de7be2efda4528d8ee455c9f8e4d07b226a", func := "example.com/heliograph/heliograph/zzlaws_internal_header_b1.FnNextWordFindsABuiltWord", spec := "fnNextWordFindsABuiltWord", inPlace := ["internal/bytealg.IndexByteString", "internal/bytealg.IndexString"], named := ["internal/bytealg.MaxLen"], apart := false }
def FnNextWordFindsABuiltWordSaid : Prop := fnNextWordFindsABuiltWordRow.holds Try.pinned (OpenSpec.ofChange fnNextWordFindsABuiltWordSpec)

/-- ITS FALSE NEIGHBOUR: 'it returns false'. Refute it at one input. -/
def fnNextWordFindsABuiltWordWrong : ChangeSpec := { name := "fnNextWordFindsABuiltWord", fn := fun _ => fun
  | [d1, d2, d3, d4, d5, d6] => { results := [.lit (.bool false)], args := [d1, d2, d3, d4, d5, d6] }
  | _ => none }
def FnNextWordFindsABuiltWordWrongFalsely : Prop := fnNextWordFindsABuiltWordRow.holds Try.pinned (OpenSpec.ofChange fnNextWordFindsABuiltWordWrong)

/-- 'zzlaws_internal_header_b1.FnIsNameSplits': WHATEVER THE INPUT: true; the input reads as it did. -/
def fnIsNameSplitsSpec : ChangeSpec := { name := "fnIsNameSplits", fn := fun _ => fun
  | [d1, d2] => { results := [.lit (.bool true)], args := [d1, d2] }
  | _ => none }
def fnIsNameSplitsRow : OpenClaim := { program := "qxb6600878a", sum := "5d06b7e412a04123fd860c34a6135de7be2efda4528d8ee455c9f8e4d07b226a", func := "example.com/heliograph/heliograph/zzlaws_internal_header_b1.FnIsNameSplits", spec := "fnIsNameSplits", apart := false }
def FnIsNameSplitsSaid : Prop := fnIsNameSplitsRow.holds Try.pinned (OpenSpec.ofChange fnIsNameSplitsSpec)

/-- ITS FALSE NEIGHBOUR: 'it returns false'. Refute it at one input. -/
def fnIsNameSplitsWrong : ChangeSpec := { name := "fnIsNameSplits", fn := fun _ => fun
  | [d1, d2] => { results := [.lit (.bool false)], args := [d1, d2] }
  | _ => none }
def FnIsNameSplitsWrongFalsely : Prop := fnIsNameSplitsRow.holds Try.pinned (OpenSpec.ofChange fnIsNameSplitsWrong)

end Rows
end Go.Proofs.Qxb6600878a
