/-
  No cell of these rows narrows 'for every input' (looked for: loops, veiled, ifaces, maps, wideKeys, modest, calm, conditions, laid).
  DERIVED. THE GIVEN ROWS OF THIS SEAT. 10 by the template 'for every input the law returns true; each argument reads behind the call as it read before'; 0 by the template 'total and deterministic' (their statements: Qxb6001673aTotals.lean).
  GIVEN WITH THE SEED: the statements are not yours to turn. If you find one false, say at which input.
  Laid BY PROGRAM, IN A SANDBOX (cutbox-rows.mjs): the forced cells as the released guide's own fill.sh prints them over the translation 2e16a242fdb2b847… (all of the seat's roots in one cut). By AI agents, Wed Nov 11 2026. No macro, syntax, notation, axiom, sorry.
-/
import Derived.Test.Qxb6001673aChecked
import GoSem.Claim
import GoSem.ClaimJoined
import GoSem.ClaimMapViews
import Derived.JoinedTies
import Derived.KernelRfl
namespace Go.Proofs.Qxb6001673a
/- THE CELL 'sum', in the pinned program and in every row, IS THE sha256 OF THE DUMP (.gsa) THAT Qxb6001673aProg.lean LOADS. Nothing in Lean hashes anything: it is a label: what it is worth is what the hold of that sum in a sandbox is worth. -/
noncomputable def Try.pinned : Pinned := { name := "qxb6001673a", sum := "2e16a242fdb2b847391676b56d2c7ee2c6e6a23011bb01f165055f7bc0c0eeca", checked := Try.checked }
namespace Rows
def none {H : Type} : Left H := { results := [], args := [] }

/-- 'zzlaws_gherkin_g1.FnUnescapeInvertsEscape': WHATEVER THE INPUT: true; the input reads as it did. -/
def fnUnescapeInvertsEscapeSpec : ChangeSpec := { name := "fnUnescapeInvertsEscape", fn := fun _ => fun
  | [d] => { results := [.lit (.bool true)], args := [d] }
  | _ => none }
def fnUnescapeInvertsEscapeRow : OpenClaim := { program := "qxb6001673a", sum := "2e16a242fdb2b847391676b56d2c7ee2c6e6a23011bb01f165055f7bc0c0eeca", func := "example.com/forkstead/forkstead/zzlaws_gherkin_g1.FnUnescapeInvertsEscape", spec := "fnUnescapeInvertsEscape", inPlace := ["internal/bytealg.IndexByteString", "internal/bytealg.IndexString", "internal/abi.NoEscape"], named := ["internal/bytealg.MaxLen"], plainKeys := false, apart := false }
def FnUnescapeInvertsEscapeSaid : Prop := fnUnescapeInvertsEscapeRow.holds Try.pinned (OpenSpec.ofChange fnUnescapeInvertsEscapeSpec)

/-- ITS FALSE NEIGHBOUR: 'it returns false'. Refute it at one input. -/
def fnUnescapeInvertsEscapeWrong : ChangeSpec := { name := "fnUnescapeInvertsEscape", fn := fun _ => fun
  | [d] => { results := [.lit (.bool false)], args := [d] }
  | _ => none }
def FnUnescapeInvertsEscapeWrongFalsely : Prop := fnUnescapeInvertsEscapeRow.holds Try.pinned (OpenSpec.ofChange fnUnescapeInvertsEscapeWrong)

/-- 'zzlaws_gherkin_g1.FnUnindentComposes': WHATEVER THE INPUT: true; the input reads as it did. -/
def fnUnindentComposesSpec : ChangeSpec := { name := "fnUnindentComposes", fn := fun _ => fun
  | [d1, d2, d3] => { results := [.lit (.bool true)], args := [d1, d2, d3] }
  | _ => none }
def fnUnindentComposesRow : OpenClaim := { program := "qxb6001673a", sum := "2e16a242fdb2b847391676b56d2c7ee2c6e6a23011bb01f165055f7bc0c0eeca", func := "example.com/forkstead/forkstead/zzlaws_gherkin_g1.FnUnindentComposes", spec := "fnUnindentComposes", plainKeys := false, apart := false }
def FnUnindentComposesSaid : Prop := fnUnindentComposesRow.holds Try.pinned (OpenSpec.ofChange fnUnindentComposesSpec)

/-- ITS FALSE NEIGHBOUR: 'it returns false'. Refute it at one input. -/
def fnUnindentComposesWrong : ChangeSpec := { name := "fnUnindentComposes", fn := fun _ => fun
  | [d1, d2, d3] => { results := [.lit (.bool false)], args := [d1, d2, d3] }
  | _ => none }
def FnUnindentComposesWrongFalsely : Prop := fnUnindentComposesRow.holds Try.pinned (OpenSpec.ofChange fnUnindentComposesWrong)

/-- 'zzlaws_gherkin_g1.FnUnindentRemovesOnlyLeadingBlanksUpToN': WHATEVER THE INPUT: true; the input reads as it did. -/
def fnUnindentRemovesOnlyLeadingBlanksUpToNSpec : ChangeSpec := { name := "fnUnindentRemovesOnlyLeadingBlanksUpToN", fn := fun _ => fun
  | [d1, d2] => { results := [.lit (.bool true)], args := [d1, d2] }
  | _ => none }
def fnUnindentRemovesOnlyLeadingBlanksUpToNRow : OpenClaim := { program := "qxb6001673a", sum := "2e16a242fdb2b847391676b56d2c7ee2c6e6a23011bb01f165055f7bc0c0eeca", func := "example.com/forkstead/forkstead/zzlaws_gherkin_g1.FnUnindentRemovesOnlyLeadingBlanksUpToN", spec := "fnUnindentRemovesOnlyLeadingBlanksUpToN", plainKeys := false, apart := false }
def FnUnindentRemovesOnlyLeadingBlanksUpToNSaid : Prop := fnUnindentRemovesOnlyLeadingBlanksUpToNRow.holds Try.pinned (OpenSpec.ofChange fnUnindentRemovesOnlyLeadingBlanksUpToNSpec)

/-- ITS FALSE NEIGHBOUR: 'it returns false'. Refute it at one input. -/
def fnUnindentRemovesOnlyLeadingBlanksUpToNWrong : ChangeSpec := { name := "fnUnindentRemovesOnlyLeadingBlanksUpToN", fn := fun _ => fun
  | [d1, d2] => { results := [.lit (.bool false)], args := [d1, d2] }
  | _ => none }
def FnUnindentRemovesOnlyLeadingBlanksUpToNWrongFalsely : Prop := fnUnindentRemovesOnlyLeadingBlanksUpToNRow.holds Try.pinned (OpenSpec.ofChange fnUnindentRemovesOnlyLeadingBlanksUpToNWrong)

/-- 'zzlaws_gherkin_g1.FnBackgroundStepsFeatureThenRule': WHATEVER THE INPUT: true; the input reads as it did. -/
def fnBackgroundStepsFeatureThenRuleSpec : ChangeSpec := { name := "fnBackgroundStepsFeatureThenRule", fn := fun _ => fun
  | [d1, d2, d3, d4, d5] => { results := [.lit (.bool true)], args := [d1, d2, d3, d4, d5] }
  | _ => none }
def fnBackgroundStepsFeatureThenRuleRow : OpenClaim := { program := "qxb6001673a", sum := "2e16a242fdb2b847391676b56d2c7ee2c6e6a23011bb01f165055f7bc0c0eeca", func := "example.com/forkstead/forkstead/zzlaws_gherkin_g1.FnBackgroundStepsFeatureThenRule", spec := "fnBackgroundStepsFeatureThenRule", plainKeys := false, apart := false }
def FnBackgroundStepsFeatureThenRuleSaid : Prop := fnBackgroundStepsFeatureThenRuleRow.holds Try.pinned (OpenSpec.ofChange fnBackgroundStepsFeatureThenRuleSpec)

/-- ITS FALSE NEIGHBOUR: 'it returns false'. Refute it at one input. -/
def fnBackgroundStepsFeatureThenRuleWrong : ChangeSpec := { name := "fnBackgroundStepsFeatureThenRule", fn := fun _ => fun
  | [d1, d2, d3, d4, d5] => { results := [.lit (.bool false)], args := [d1, d2, d3, d4, d5] }
  | _ => none }
def FnBackgroundStepsFeatureThenRuleWrongFalsely : Prop := fnBackgroundStepsFeatureThenRuleRow.holds Try.pinned (OpenSpec.ofChange fnBackgroundStepsFeatureThenRuleWrong)

/-- 'zzlaws_internal_naming_g1.FnAskedAgreesWithSpent': WHATEVER THE INPUT: true; the input reads as it did. -/
def fnAskedAgreesWithSpentSpec : ChangeSpec := { name := "fnAskedAgreesWithSpent", fn := fun _ => fun
  | [d1, d2, d3, d4, d5] => { results := [.lit (.bool true)], args := [d1, d2, d3, d4, d5] }
  | _ => none }
def fnAskedAgreesWithSpentRow : OpenClaim := { program := "qxb6001673a", sum := "2e16a242fdb2b847391676b56d2c7ee2c6e6a23011bb01f165055f7bc0c0eeca", func := "example.com/forkstead/forkstead/zzlaws_internal_naming_g1.FnAskedAgreesWithSpent", spec := "fnAskedAgreesWithSpent", plainKeys := false, apart := false }
def FnAskedAgreesWithSpentSaid : Prop := fnAskedAgreesWithSpentRow.holds Try.pinned (OpenSpec.ofChange fnAskedAgreesWithSpentSpec)

/-- ITS FALSE NEIGHBOUR: 'it returns false'. Refute it at one input. -/
def fnAskedAgreesWithSpentWrong : ChangeSpec := { name := "fnAskedAgreesWithSpent", fn := fun _ => fun
  | [d1, d2, d3, d4, d5] => { results := [.lit (.bool false)], args := [d1, d2, d3, d4, d5] }
  | _ => none }
def FnAskedAgreesWithSpentWrongFalsely : Prop := fnAskedAgreesWithSpentRow.holds Try.pinned (OpenSpec.ofChange fnAskedAgreesWithSpentWrong)

/-- 'zzlaws_internal_naming_g1.FnPassedBoundMonotoneIdempotent': WHATEVER THE INPUT: true; the input reads as it did. -/
def fnPassedBoundMonotoneIdempotentSpec : ChangeSpec := { name := "fnPassedBoundMonotoneIdempotent", fn := fun _ => fun
  | [d1, d2, d3, d4, d5, d6, d7] => { results := [.lit (.bool true)], args := [d1, d2, d3, d4, d5, d6, d7] }
  | _ => none }
def fnPassedBoundMonotoneIdempotentRow : OpenClaim := { program := "qxb6001673a", sum := "2e16a242fdb2b847391676b56d2c7ee2c6e6a23011bb01f165055f7bc0c0eeca", func := "example.com/forkstead/forkstead/zzlaws_internal_naming_g1.FnPassedBoundMonotoneIdempotent", spec := "fnPassedBoundMonotoneIdempotent", plainKeys := false, apart := false }
def FnPassedBoundMonotoneIdempotentSaid : Prop := fnPassedBoundMonotoneIdempotentRow.holds Try.pinned (OpenSpec.ofChange fnPassedBoundMonotoneIdempotentSpec)

/-- ITS FALSE NEIGHBOUR: 'it returns false'. Refute it at one input. -/
def fnPassedBoundMonotoneIdempotentWrong : ChangeSpec := { name := "fnPassedBoundMonotoneIdempotent", fn := fun _ => fun
  | [d1, d2, d3, d4, d5, d6, d7] => { results := [.lit (.bool false)], args := [d1, d2, d3, d4, d5, d6, d7] }
  | _ => none }
def FnPassedBoundMonotoneIdempotentWrongFalsely : Prop := fnPassedBoundMonotoneIdempotentRow.holds Try.pinned (OpenSpec.ofChange fnPassedBoundMonotoneIdempotentWrong)

/-- 'zzlaws_internal_runner_g1.FnCarrySpec': WHATEVER THE INPUT: true; the input reads as it did. -/
def fnCarrySpecSpec : ChangeSpec := { name := "fnCarrySpec", fn := fun _ => fun
  | [d1, d2] => { results := [.lit (.bool true)], args := [d1, d2] }
  | _ => none }
def fnCarrySpecRow : OpenClaim := { program := "qxb6001673a", sum := "2e16a242fdb2b847391676b56d2c7ee2c6e6a23011bb01f165055f7bc0c0eeca", func := "example.com/forkstead/forkstead/zzlaws_internal_runner_g1.FnCarrySpec", spec := "fnCarrySpec", plainKeys := false, apart := false }
def FnCarrySpecSaid : Prop := fnCarrySpecRow.holds Try.pinned (OpenSpec.ofChange fnCarrySpecSpec)

/-- ITS FALSE NEIGHBOUR: 'it returns false'. Refute it at one input. -/
def fnCarrySpecWrong : ChangeSpec := { name := "fnCarrySpec", fn := fun _ => fun
  | [d1, d2] => { results := [.lit (.bool false)], args := [d1, d2] }
  | _ => none }
def FnCarrySpecWrongFalsely : Prop := fnCarrySpecRow.holds Try.pinned (OpenSpec.ofChange fnCarrySpecWrong)

/-- 'zzlaws_internal_runner_g1.FnCarryFoldsOverConcatenation': WHATEVER THE INPUT: true; the input reads as it did. -/
def fnCarryFoldsOverConcatenationSpec : ChangeSpec := { name := "fnCarryFoldsOverConcatenation", fn := fun _ => fun
  | [d1, d2, d3] => { results := [.lit (.bool true)], args := [d1, d2, d3] }
  | _ => none }
def fnCarryFoldsOverConcatenationRow : OpenClaim := { program := "qxb6001673a", sum := "2e16a242fdb2b847391676b56d2c7ee2c6e6a23011bb01f165055f7bc0c0eeca", func := "example.com/forkstead/forkstead/zzlaws_internal_runner_g1.FnCarryFoldsOverConcatenation", spec := "fnCarryFoldsOverConcatenation", plainKeys := false, apart := false }
def FnCarryFoldsOverConcatenationSaid : Prop := fnCarryFoldsOverConcatenationRow.holds Try.pinned (OpenSpec.ofChange fnCarryFoldsOverConcatenationSpec)

/-- ITS FALSE NEIGHBOUR: 'it returns false'. Refute it at one input. -/
def fnCarryFoldsOverConcatenationWrong : ChangeSpec := { name := "fnCarryFoldsOverConcatenation", fn := fun _ => fun
  | [d1, d2, d3] => { results := [.lit (.bool false)], args := [d1, d2, d3] }
  | _ => none }
def FnCarryFoldsOverConcatenationWrongFalsely : Prop := fnCarryFoldsOverConcatenationRow.holds Try.pinned (OpenSpec.ofChange fnCarryFoldsOverConcatenationWrong)

/-- 'zzlaws_spec_g1.FnApplyMatchesBackwardModel': WHATEVER THE INPUT: true; the input reads as it did. -/
def fnApplyMatchesBackwardModelSpec : ChangeSpec := { name := "fnApplyMatchesBackwardModel", fn := fun _ => fun
  | [d] => { results := [.lit (.bool true)], args := [d] }
  | _ => none }
def fnApplyMatchesBackwardModelRow : OpenClaim := { program := "qxb6001673a", sum := "2e16a242fdb2b847391676b56d2c7ee2c6e6a23011bb01f165055f7bc0c0eeca", func := "example.com/forkstead/forkstead/zzlaws_spec_g1.FnApplyMatchesBackwardModel", spec := "fnApplyMatchesBackwardModel", plainKeys := false, apart := false }
def FnApplyMatchesBackwardModelSaid : Prop := fnApplyMatchesBackwardModelRow.holds Try.pinned (OpenSpec.ofChange fnApplyMatchesBackwardModelSpec)

/-- ITS FALSE NEIGHBOUR: 'it returns false'. Refute it at one input. -/
def fnApplyMatchesBackwardModelWrong : ChangeSpec := { name := "fnApplyMatchesBackwardModel", fn := fun _ => fun
  | [d] => { results := [.lit (.bool false)], args := [d] }
  | _ => none }
def FnApplyMatchesBackwardModelWrongFalsely : Prop := fnApplyMatchesBackwardModelRow.holds Try.pinned (OpenSpec.ofChange fnApplyMatchesBackwardModelWrong)

/-- 'zzlaws_spec_g1.FnApplyIsAMonoidHomomorphism': WHATEVER THE INPUT: true; the input reads as it did. -/
def fnApplyIsAMonoidHomomorphismSpec : ChangeSpec := { name := "fnApplyIsAMonoidHomomorphism", fn := fun _ => fun
  | [d1, d2] => { results := [.lit (.bool true)], args := [d1, d2] }
  | _ => none }
def fnApplyIsAMonoidHomomorphismRow : OpenClaim := { program := "qxb6001673a", sum := "2e16a242fdb2b847391676b56d2c7ee2c6e6a23011bb01f165055f7bc0c0eeca", func := "example.com/forkstead/forkstead/zzlaws_spec_g1.FnApplyIsAMonoidHomomorphism", spec := "fnApplyIsAMonoidHomomorphism", plainKeys := false, apart := false }
def FnApplyIsAMonoidHomomorphismSaid : Prop := fnApplyIsAMonoidHomomorphismRow.holds Try.pinned (OpenSpec.ofChange fnApplyIsAMonoidHomomorphismSpec)

/-- ITS FALSE NEIGHBOUR: 'it returns false'. Refute it at one input. -/
def fnApplyIsAMonoidHomomorphismWrong : ChangeSpec := { name := "fnApplyIsAMonoidHomomorphism", fn := fun _ => fun
  | [d1, d2] => { results := [.lit (.bool false)], args := [d1, d2] }
  | _ => none }
def FnApplyIsAMonoidHomomorphismWrongFalsely : Prop := fnApplyIsAMonoidHomomorphismRow.holds Try.pinned (OpenSpec.ofChange fnApplyIsAMonoidHomomorphismWrong)

end Rows
end Go.Proofs.Qxb6001673a
