/-
  No cell of these rows narrows 'for every input' (looked for: loops, veiled, ifaces, maps, wideKeys, modest, calm, conditions, laid).
  DERIVED. THE GIVEN ROWS OF THIS SEAT. 7 by the template 'for every input the law returns true; each argument reads behind the call as it read before'; 0 by the template 'total and deterministic' (their statements: Qxb6602215aTotals.lean).
  GIVEN WITH THE SEED: the statements are not yours to turn. If you find one false, say at which input.
  Laid BY PROGRAM, IN A SANDBOX (cutbox-rows.mjs): the forced cells as the released guide's own fill.sh prints them over the translation 2c24845cbc2d5097… (all of the seat's roots in one cut). By AI agents, Wed Nov 11 2026. No macro, syntax, notation, axiom, sorry.
-/
import Derived.Test.Qxb6602215aChecked
import GoSem.Claim
import GoSem.ClaimJoined
import GoSem.ClaimMapViews
import Derived.JoinedTies
import Derived.KernelRfl
namespace Go.Proofs.Qxb6602215a
/- THE CELL 'sum', in the pinned program and in every row, IS THE sha256 OF THE DUMP (.gsa) THAT Qxb6602215aProg.lean LOADS. Nothing in Lean hashes anything: it is a label: what it is worth is what the hold of that sum in a sandbox is worth. -/
noncomputable def Try.pinned : Pinned := { name := "qxb6602215a", sum := "2c24845cbc2d509745b630dde752b888ab021bca6c614632eedb319decc98dd8", checked := Try.checked }
namespace Rows
def none {H : Type} : Left H := { results := [], args := [] }

/-- 'zzlaws_internal_sqltext_b1.FnReadModesMatchesAutomaton': WHATEVER THE INPUT: true; the input reads as it did. -/
def fnReadModesMatchesAutomatonSpec : ChangeSpec := { name := "fnReadModesMatchesAutomaton", fn := fun _ => fun
  | [d] => { results := [.lit (.bool true)], args := [d] }
  | _ => none }
def fnReadModesMatchesAutomatonRow : OpenClaim := { program := "qxb6602215a", sum := "2c24845cbc2d509745b630dde752b888ab021bca6c614632eedb319decc98dd8", func := "example.com/porphyry/porphyry/zzlaws_internal_sqltext_b1.FnReadModesMatchesAutomaton", spec := "fnReadModesMatchesAutomaton", apart := false }
def FnReadModesMatchesAutomatonSaid : Prop := fnReadModesMatchesAutomatonRow.holds Try.pinned (OpenSpec.ofChange fnReadModesMatchesAutomatonSpec)

/-- ITS FALSE NEIGHBOUR: 'it returns false'. Refute it at one input. -/
def fnReadModesMatchesAutomatonWrong : ChangeSpec := { name := "fnReadModesMatchesAutomaton", fn := fun _ => fun
  | [d] => { results := [.lit (.bool false)], args := [d] }
  | _ => none }
def FnReadModesMatchesAutomatonWrongFalsely : Prop := fnReadModesMatchesAutomatonRow.holds Try.pinned (OpenSpec.ofChange fnReadModesMatchesAutomatonWrong)

/-- 'zzlaws_internal_sqltext_b1.FnReadModesReadsWhatIsWritten': WHATEVER THE INPUT: true; the input reads as it did. -/
def fnReadModesReadsWhatIsWrittenSpec : ChangeSpec := { name := "fnReadModesReadsWhatIsWritten", fn := fun _ => fun
  | [d1, d2] => { results := [.lit (.bool true)], args := [d1, d2] }
  | _ => none }
def fnReadModesReadsWhatIsWrittenRow : OpenClaim := { program := "qxb6602215a", sum := "2c24845cbc2d509745b630dde752b888ab021bca6c614632eedb319decc98dd8", func := "example.com/porphyry/porphyry/zzlaws_internal_sqltext_b1.FnReadModesReadsWhatIsWritten", spec := "fnReadModesReadsWhatIsWritten", apart := false }
def FnReadModesReadsWhatIsWrittenSaid : Prop := fnReadModesReadsWhatIsWrittenRow.holds Try.pinned (OpenSpec.ofChange fnReadModesReadsWhatIsWrittenSpec)

/-- ITS FALSE NEIGHBOUR: 'it returns false'. Refute it at one input. -/
def fnReadModesReadsWhatIsWrittenWrong : ChangeSpec := { name := "fnReadModesReadsWhatIsWritten", fn := fun _ => fun
  | [d1, d2] => { results := [.lit (.bool false)], args := [d1, d2] }
  | _ => none }
def FnReadModesReadsWhatIsWrittenWrongFalsely : Prop := fnReadModesReadsWhatIsWrittenRow.holds Try.pinned (OpenSpec.ofChange fnReadModesReadsWhatIsWrittenWrong)

/-- 'zzlaws_internal_sqltext_b1.FnReadModesConcatenates': WHATEVER THE INPUT: true; the input reads as it did. -/
def fnReadModesConcatenatesSpec : ChangeSpec := { name := "fnReadModesConcatenates", fn := fun _ => fun
  | [d1, d2, d3] => { results := [.lit (.bool true)], args := [d1, d2, d3] }
  | _ => none }
def fnReadModesConcatenatesRow : OpenClaim := { program := "qxb6602215a", sum := "2c24845cbc2d509745b630dde752b888ab021bca6c614632eedb319decc98dd8", func := "example.com/porphyry/porphyry/zzlaws_internal_sqltext_b1.FnReadModesConcatenates", spec := "fnReadModesConcatenates", apart := false }
def FnReadModesConcatenatesSaid : Prop := fnReadModesConcatenatesRow.holds Try.pinned (OpenSpec.ofChange fnReadModesConcatenatesSpec)

/-- ITS FALSE NEIGHBOUR: 'it returns false'. Refute it at one input. -/
def fnReadModesConcatenatesWrong : ChangeSpec := { name := "fnReadModesConcatenates", fn := fun _ => fun
  | [d1, d2, d3] => { results := [.lit (.bool false)], args := [d1, d2, d3] }
  | _ => none }
def FnReadModesConcatenatesWrongFalsely : Prop := fnReadModesConcatenatesRow.holds Try.pinned (OpenSpec.ofChange fnReadModesConcatenatesWrong)

/-- 'zzlaws_internal_sqltext_b1.FnStatementSpansPartitionTheTokens': WHATEVER THE INPUT: true; the input reads as it did. -/
def fnStatementSpansPartitionTheTokensSpec : ChangeSpec := { name := "fnStatementSpansPartitionTheTokens", fn := fun _ => fun
  | [d] => { results := [.lit (.bool true)], args := [d] }
  | _ => none }
def fnStatementSpansPartitionTheTokensRow : OpenClaim := { program := "qxb6602215a", sum := "2c24845cbc2d509745b630dde752b888ab021bca6c614632eedb319decc98dd8", func := "example.com/porphyry/porphyry/zzlaws_internal_sqltext_b1.FnStatementSpansPartitionTheTokens", spec := "fnStatementSpansPartitionTheTokens", apart := false }
def FnStatementSpansPartitionTheTokensSaid : Prop := fnStatementSpansPartitionTheTokensRow.holds Try.pinned (OpenSpec.ofChange fnStatementSpansPartitionTheTokensSpec)

/-- ITS FALSE NEIGHBOUR: 'it returns false'. Refute it at one input. -/
def fnStatementSpansPartitionTheTokensWrong : ChangeSpec := { name := "fnStatementSpansPartitionTheTokens", fn := fun _ => fun
  | [d] => { results := [.lit (.bool false)], args := [d] }
  | _ => none }
def FnStatementSpansPartitionTheTokensWrongFalsely : Prop := fnStatementSpansPartitionTheTokensRow.holds Try.pinned (OpenSpec.ofChange fnStatementSpansPartitionTheTokensWrong)

/-- 'zzlaws_internal_sqltext_b1.FnStatementSpansShiftBehindASemicolon': WHATEVER THE INPUT: true; the input reads as it did. -/
def fnStatementSpansShiftBehindASemicolonSpec : ChangeSpec := { name := "fnStatementSpansShiftBehindASemicolon", fn := fun _ => fun
  | [d] => { results := [.lit (.bool true)], args := [d] }
  | _ => none }
def fnStatementSpansShiftBehindASemicolonRow : OpenClaim := { program := "qxb6602215a", sum := "2c24845cbc2d509745b630dde752b888ab021bca6c614632eedb319decc98dd8", func := "example.com/porphyry/porphyry/zzlaws_internal_sqltext_b1.FnStatementSpansShiftBehindASemicolon", spec := "fnStatementSpansShiftBehindASemicolon", apart := false }
def FnStatementSpansShiftBehindASemicolonSaid : Prop := fnStatementSpansShiftBehindASemicolonRow.holds Try.pinned (OpenSpec.ofChange fnStatementSpansShiftBehindASemicolonSpec)

/-- ITS FALSE NEIGHBOUR: 'it returns false'. Refute it at one input. -/
def fnStatementSpansShiftBehindASemicolonWrong : ChangeSpec := { name := "fnStatementSpansShiftBehindASemicolon", fn := fun _ => fun
  | [d] => { results := [.lit (.bool false)], args := [d] }
  | _ => none }
def FnStatementSpansShiftBehindASemicolonWrongFalsely : Prop := fnStatementSpansShiftBehindASemicolonRow.holds Try.pinned (OpenSpec.ofChange fnStatementSpansShiftBehindASemicolonWrong)

/-- 'zzlaws_internal_sqltext_b1.FnAfterWithSkipsTheWithList': WHATEVER THE INPUT: true; the input reads as it did. -/
def fnAfterWithSkipsTheWithListSpec : ChangeSpec := { name := "fnAfterWithSkipsTheWithList", fn := fun _ => fun
  | [d1, d2, d3] => { results := [.lit (.bool true)], args := [d1, d2, d3] }
  | _ => none }
def fnAfterWithSkipsTheWithListRow : OpenClaim := { program := "qxb6602215a", sum := "2c24845cbc2d509745b630dde752b888ab021bca6c614632eedb319decc98dd8", func := "example.com/porphyry/porphyry/zzlaws_internal_sqltext_b1.FnAfterWithSkipsTheWithList", spec := "fnAfterWithSkipsTheWithList", apart := false }
def FnAfterWithSkipsTheWithListSaid : Prop := fnAfterWithSkipsTheWithListRow.holds Try.pinned (OpenSpec.ofChange fnAfterWithSkipsTheWithListSpec)

/-- ITS FALSE NEIGHBOUR: 'it returns false'. Refute it at one input. -/
def fnAfterWithSkipsTheWithListWrong : ChangeSpec := { name := "fnAfterWithSkipsTheWithList", fn := fun _ => fun
  | [d1, d2, d3] => { results := [.lit (.bool false)], args := [d1, d2, d3] }
  | _ => none }
def FnAfterWithSkipsTheWithListWrongFalsely : Prop := fnAfterWithSkipsTheWithListRow.holds Try.pinned (OpenSpec.ofChange fnAfterWithSkipsTheWithListWrong)

/-- 'zzlaws_internal_sqltext_b1.FnAfterWithStaysInBounds': WHATEVER THE INPUT: true; the input reads as it did. -/
def fnAfterWithStaysInBoundsSpec : ChangeSpec := { name := "fnAfterWithStaysInBounds", fn := fun _ => fun
  | [d1, d2, d3] => { results := [.lit (.bool true)], args := [d1, d2, d3] }
  | _ => none }
def fnAfterWithStaysInBoundsRow : OpenClaim := { program := "qxb6602215a", sum := "2c24845cbc2d509745b630dde752b888ab021bca6c614632eedb319decc98dd8", func := "example.com/porphyry/porphyry/zzlaws_internal_sqltext_b1.FnAfterWithStaysInBounds", spec := "fnAfterWithStaysInBounds", apart := false }
def FnAfterWithStaysInBoundsSaid : Prop := fnAfterWithStaysInBoundsRow.holds Try.pinned (OpenSpec.ofChange fnAfterWithStaysInBoundsSpec)

/-- ITS FALSE NEIGHBOUR: 'it returns false'. Refute it at one input. -/
def fnAfterWithStaysInBoundsWrong : ChangeSpec := { name := "fnAfterWithStaysInBounds", fn := fun _ => fun
  | [d1, d2, d3] => { results := [.lit (.bool false)], args := [d1, d2, d3] }
  | _ => none }
def FnAfterWithStaysInBoundsWrongFalsely : Prop := fnAfterWithStaysInBoundsRow.holds Try.pinned (OpenSpec.ofChange fnAfterWithStaysInBoundsWrong)

end Rows
end Go.Proofs.Qxb6602215a
