/-
  No cell of these rows narrows 'for every input' (looked for: loops, veiled, ifaces, maps, wideKeys, modest, calm, conditions, laid).
  DERIVED. THE GIVEN ROWS OF THIS SEAT. 6 by the template 'for every input the law returns true; each argument reads behind the call as it read before'; 0 by the template 'total and deterministic' (their statements: Qxb6600656aTotals.lean).
  GIVEN WITH THE SEED: the statements are not yours to turn. If you find one false, say at which input.
  Laid BY PROGRAM, IN A SANDBOX (cutbox-rows.mjs): the forced cells as the released guide's own fill.sh prints them over the translation 1284adc316cbb978… (all of the seat's roots in one cut). By AI agents, Wed Nov 11 2026. No macro, syntax, notation, axiom, sorry.
-/
import Derived.Test.Qxb6600656aChecked
import GoSem.Claim
import GoSem.ClaimJoined
import GoSem.ClaimMapViews
import Derived.JoinedTies
import Derived.KernelRfl
namespace Go.Proofs.Qxb6600656a
/- THE CELL 'sum', in the pinned program and in every row, IS THE sha256 OF THE DUMP (.gsa) THAT Qxb6600656aProg.lean LOADS. Nothing in Lean hashes anything: it is a label: what it is worth is what the hold of that sum in a sandbox is worth. -/
noncomputable def Try.pinned : Pinned := { name := "qxb6600656a", sum := "1284adc316cbb978f7693171e8fa133bde4d1c4f82f1fce6752b38c48fc422f4", checked := Try.checked }
namespace Rows
def none {H : Type} : Left H := { results := [], args := [] }

/-- 'zzlaws_internal_yaml_b1.FnEscapedOnlyTabCollides': WHATEVER THE INPUT: true; the input reads as it did. -/
def fnEscapedOnlyTabCollidesSpec : ChangeSpec := { name := "fnEscapedOnlyTabCollides", fn := fun _ => fun
  | [d1, d2] => { results := [.lit (.bool true)], args := [d1, d2] }
  | _ => none }
def fnEscapedOnlyTabCollidesRow : OpenClaim := { program := "qxb6600656a", sum := "1284adc316cbb978f7693171e8fa133bde4d1c4f82f1fce6752b38c48fc422f4", func := "example.com/errand/errand/zzlaws_internal_yaml_b1.FnEscapedOnlyTabCollides", spec := "fnEscapedOnlyTabCollides", apart := false }
def FnEscapedOnlyTabCollidesSaid : Prop := fnEscapedOnlyTabCollidesRow.holds Try.pinned (OpenSpec.ofChange fnEscapedOnlyTabCollidesSpec)

/-- ITS FALSE NEIGHBOUR: 'it returns false'. Refute it at one input. -/
def fnEscapedOnlyTabCollidesWrong : ChangeSpec := { name := "fnEscapedOnlyTabCollides", fn := fun _ => fun
  | [d1, d2] => { results := [.lit (.bool false)], args := [d1, d2] }
  | _ => none }
def FnEscapedOnlyTabCollidesWrongFalsely : Prop := fnEscapedOnlyTabCollidesRow.holds Try.pinned (OpenSpec.ofChange fnEscapedOnlyTabCollidesWrong)

/-- 'zzlaws_internal_yaml_b1.FnCoreTagMatchesGrammar': WHATEVER THE INPUT: true; the input reads as it did. -/
def fnCoreTagMatchesGrammarSpec : ChangeSpec := { name := "fnCoreTagMatchesGrammar", fn := fun _ => fun
  | [d] => { results := [.lit (.bool true)], args := [d] }
  | _ => none }
def fnCoreTagMatchesGrammarRow : OpenClaim := { program := "qxb6600656a", sum := "1284adc316cbb978f7693171e8fa133bde4d1c4f82f1fce6752b38c48fc422f4", func := "example.com/errand/errand/zzlaws_internal_yaml_b1.FnCoreTagMatchesGrammar", spec := "fnCoreTagMatchesGrammar", inPlace := ["internal/bytealg.IndexByteString", "internal/bytealg.IndexString"], named := ["internal/bytealg.MaxLen"], apart := false }
def FnCoreTagMatchesGrammarSaid : Prop := fnCoreTagMatchesGrammarRow.holds Try.pinned (OpenSpec.ofChange fnCoreTagMatchesGrammarSpec)

/-- ITS FALSE NEIGHBOUR: 'it returns false'. Refute it at one input. -/
def fnCoreTagMatchesGrammarWrong : ChangeSpec := { name := "fnCoreTagMatchesGrammar", fn := fun _ => fun
  | [d] => { results := [.lit (.bool false)], args := [d] }
  | _ => none }
def FnCoreTagMatchesGrammarWrongFalsely : Prop := fnCoreTagMatchesGrammarRow.holds Try.pinned (OpenSpec.ofChange fnCoreTagMatchesGrammarWrong)

/-- 'zzlaws_internal_yaml_b1.FnCoreTagSignKeepsOnlyDecimalNumbers': WHATEVER THE INPUT: true; the input reads as it did. -/
def fnCoreTagSignKeepsOnlyDecimalNumbersSpec : ChangeSpec := { name := "fnCoreTagSignKeepsOnlyDecimalNumbers", fn := fun _ => fun
  | [d] => { results := [.lit (.bool true)], args := [d] }
  | _ => none }
def fnCoreTagSignKeepsOnlyDecimalNumbersRow : OpenClaim := { program := "qxb6600656a", sum := "1284adc316cbb978f7693171e8fa133bde4d1c4f82f1fce6752b38c48fc422f4", func := "example.com/errand/errand/zzlaws_internal_yaml_b1.FnCoreTagSignKeepsOnlyDecimalNumbers", spec := "fnCoreTagSignKeepsOnlyDecimalNumbers", inPlace := ["internal/bytealg.IndexByteString", "internal/bytealg.IndexString"], named := ["internal/bytealg.MaxLen"], apart := false }
def FnCoreTagSignKeepsOnlyDecimalNumbersSaid : Prop := fnCoreTagSignKeepsOnlyDecimalNumbersRow.holds Try.pinned (OpenSpec.ofChange fnCoreTagSignKeepsOnlyDecimalNumbersSpec)

/-- ITS FALSE NEIGHBOUR: 'it returns false'. Refute it at one input. -/
def fnCoreTagSignKeepsOnlyDecimalNumbersWrong : ChangeSpec := { name := "fnCoreTagSignKeepsOnlyDecimalNumbers", fn := fun _ => fun
  | [d] => { results := [.lit (.bool false)], args := [d] }
  | _ => none }
def FnCoreTagSignKeepsOnlyDecimalNumbersWrongFalsely : Prop := fnCoreTagSignKeepsOnlyDecimalNumbersRow.holds Try.pinned (OpenSpec.ofChange fnCoreTagSignKeepsOnlyDecimalNumbersWrong)

/-- 'zzlaws_internal_yaml_b1.FnPlainTextMatchesStopAndTrimModel': WHATEVER THE INPUT: true; the input reads as it did. -/
def fnPlainTextMatchesStopAndTrimModelSpec : ChangeSpec := { name := "fnPlainTextMatchesStopAndTrimModel", fn := fun _ => fun
  | [d1, d2, d3] => { results := [.lit (.bool true)], args := [d1, d2, d3] }
  | _ => none }
def fnPlainTextMatchesStopAndTrimModelRow : OpenClaim := { program := "qxb6600656a", sum := "1284adc316cbb978f7693171e8fa133bde4d1c4f82f1fce6752b38c48fc422f4", func := "example.com/errand/errand/zzlaws_internal_yaml_b1.FnPlainTextMatchesStopAndTrimModel", spec := "fnPlainTextMatchesStopAndTrimModel", apart := false }
def FnPlainTextMatchesStopAndTrimModelSaid : Prop := fnPlainTextMatchesStopAndTrimModelRow.holds Try.pinned (OpenSpec.ofChange fnPlainTextMatchesStopAndTrimModelSpec)

/-- ITS FALSE NEIGHBOUR: 'it returns false'. Refute it at one input. -/
def fnPlainTextMatchesStopAndTrimModelWrong : ChangeSpec := { name := "fnPlainTextMatchesStopAndTrimModel", fn := fun _ => fun
  | [d1, d2, d3] => { results := [.lit (.bool false)], args := [d1, d2, d3] }
  | _ => none }
def FnPlainTextMatchesStopAndTrimModelWrongFalsely : Prop := fnPlainTextMatchesStopAndTrimModelRow.holds Try.pinned (OpenSpec.ofChange fnPlainTextMatchesStopAndTrimModelWrong)

/-- 'zzlaws_internal_yaml_b1.FnPlainTextResumeReadsNothing': WHATEVER THE INPUT: true; the input reads as it did. -/
def fnPlainTextResumeReadsNothingSpec : ChangeSpec := { name := "fnPlainTextResumeReadsNothing", fn := fun _ => fun
  | [d1, d2, d3] => { results := [.lit (.bool true)], args := [d1, d2, d3] }
  | _ => none }
def fnPlainTextResumeReadsNothingRow : OpenClaim := { program := "qxb6600656a", sum := "1284adc316cbb978f7693171e8fa133bde4d1c4f82f1fce6752b38c48fc422f4", func := "example.com/errand/errand/zzlaws_internal_yaml_b1.FnPlainTextResumeReadsNothing", spec := "fnPlainTextResumeReadsNothing", apart := false }
def FnPlainTextResumeReadsNothingSaid : Prop := fnPlainTextResumeReadsNothingRow.holds Try.pinned (OpenSpec.ofChange fnPlainTextResumeReadsNothingSpec)

/-- ITS FALSE NEIGHBOUR: 'it returns false'. Refute it at one input. -/
def fnPlainTextResumeReadsNothingWrong : ChangeSpec := { name := "fnPlainTextResumeReadsNothing", fn := fun _ => fun
  | [d1, d2, d3] => { results := [.lit (.bool false)], args := [d1, d2, d3] }
  | _ => none }
def FnPlainTextResumeReadsNothingWrongFalsely : Prop := fnPlainTextResumeReadsNothingRow.holds Try.pinned (OpenSpec.ofChange fnPlainTextResumeReadsNothingWrong)

/-- 'zzlaws_internal_yaml_b1.FnPlainTextFlowTextIsPrefixOfBlock': WHATEVER THE INPUT: true; the input reads as it did. -/
def fnPlainTextFlowTextIsPrefixOfBlockSpec : ChangeSpec := { name := "fnPlainTextFlowTextIsPrefixOfBlock", fn := fun _ => fun
  | [d1, d2] => { results := [.lit (.bool true)], args := [d1, d2] }
  | _ => none }
def fnPlainTextFlowTextIsPrefixOfBlockRow : OpenClaim := { program := "qxb6600656a", sum := "1284adc316cbb978f7693171e8fa133bde4d1c4f82f1fce6752b38c48fc422f4", func := "example.com/errand/errand/zzlaws_internal_yaml_b1.FnPlainTextFlowTextIsPrefixOfBlock", spec := "fnPlainTextFlowTextIsPrefixOfBlock", apart := false }
def FnPlainTextFlowTextIsPrefixOfBlockSaid : Prop := fnPlainTextFlowTextIsPrefixOfBlockRow.holds Try.pinned (OpenSpec.ofChange fnPlainTextFlowTextIsPrefixOfBlockSpec)

/-- ITS FALSE NEIGHBOUR: 'it returns false'. Refute it at one input. -/
def fnPlainTextFlowTextIsPrefixOfBlockWrong : ChangeSpec := { name := "fnPlainTextFlowTextIsPrefixOfBlock", fn := fun _ => fun
  | [d1, d2] => { results := [.lit (.bool false)], args := [d1, d2] }
  | _ => none }
def FnPlainTextFlowTextIsPrefixOfBlockWrongFalsely : Prop := fnPlainTextFlowTextIsPrefixOfBlockRow.holds Try.pinned (OpenSpec.ofChange fnPlainTextFlowTextIsPrefixOfBlockWrong)

end Rows
end Go.Proofs.Qxb6600656a
