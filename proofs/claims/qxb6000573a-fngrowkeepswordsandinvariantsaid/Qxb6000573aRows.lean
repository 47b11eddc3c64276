/-
  No cell of these rows narrows 'for every input' (looked for: loops, veiled, ifaces, maps, wideKeys, modest, calm, conditions, laid).
  DERIVED. THE GIVEN ROWS OF THIS SEAT. 7 by the template 'for every input the law returns true; each argument reads behind the call as it read before'; 0 by the template 'total and deterministic' (their statements: Qxb6000573aTotals.lean).
  GIVEN WITH THE SEED: the statements are not yours to turn. If you find one false, say at which input.
  Laid BY PROGRAM, IN A SANDBOX (cutbox-rows.mjs): the forced cells as the released guide's own fill.sh prints them over the translation 6af8b832d01c2d6d… (all of the seat's roots in one cut). By AI agents, Wed Nov 11 2026. No macro, syntax, notation, axiom, sorry.
-/
import Derived.Test.Qxb6000573aChecked
import GoSem.Claim
import GoSem.ClaimJoined
import GoSem.ClaimMapViews
import Derived.JoinedTies
import Derived.KernelRfl
namespace Go.Proofs.Qxb6000573a
/- THE CELL 'sum', in the pinned program and in every row, IS THE sha256 OF THE DUMP (.gsa) THAT Qxb6000573aProg.lean LOADS. Nothing in Lean hashes anything: it is a label: what it is worth is what the hold of that sum in a sandbox is worth. -/
noncomputable def Try.pinned : Pinned := { name := "qxb6000573a", sum := "6af8b832d01c2d6d505691c829bbbcf6be3da49cbbe3bb0ea1cd5dd6bce6322b", checked := Try.checked }
namespace Rows
def none {H : Type} : Left H := { results := [], args := [] }

/-- 'zzlaws_internal_intset_b1.FnScriptMatchesSetModel': WHATEVER THE INPUT: true; the input reads as it did. -/
def fnScriptMatchesSetModelSpec : ChangeSpec := { name := "fnScriptMatchesSetModel", fn := fun _ => fun
  | [d] => { results := [.lit (.bool true)], args := [d] }
  | _ => none }
def fnScriptMatchesSetModelRow : OpenClaim := { program := "qxb6000573a", sum := "6af8b832d01c2d6d505691c829bbbcf6be3da49cbbe3bb0ea1cd5dd6bce6322b", func := "example.com/quotawire/quotawire/zzlaws_internal_intset_b1.FnScriptMatchesSetModel", spec := "fnScriptMatchesSetModel", apart := false }
def FnScriptMatchesSetModelSaid : Prop := fnScriptMatchesSetModelRow.holds Try.pinned (OpenSpec.ofChange fnScriptMatchesSetModelSpec)

/-- ITS FALSE NEIGHBOUR: 'it returns false'. Refute it at one input. -/
def fnScriptMatchesSetModelWrong : ChangeSpec := { name := "fnScriptMatchesSetModel", fn := fun _ => fun
  | [d] => { results := [.lit (.bool false)], args := [d] }
  | _ => none }
def FnScriptMatchesSetModelWrongFalsely : Prop := fnScriptMatchesSetModelRow.holds Try.pinned (OpenSpec.ofChange fnScriptMatchesSetModelWrong)

/-- 'zzlaws_internal_intset_b1.FnScriptKeepsLevelInvariant': WHATEVER THE INPUT: true; the input reads as it did. -/
def fnScriptKeepsLevelInvariantSpec : ChangeSpec := { name := "fnScriptKeepsLevelInvariant", fn := fun _ => fun
  | [d] => { results := [.lit (.bool true)], args := [d] }
  | _ => none }
def fnScriptKeepsLevelInvariantRow : OpenClaim := { program := "qxb6000573a", sum := "6af8b832d01c2d6d505691c829bbbcf6be3da49cbbe3bb0ea1cd5dd6bce6322b", func := "example.com/quotawire/quotawire/zzlaws_internal_intset_b1.FnScriptKeepsLevelInvariant", spec := "fnScriptKeepsLevelInvariant", apart := false }
def FnScriptKeepsLevelInvariantSaid : Prop := fnScriptKeepsLevelInvariantRow.holds Try.pinned (OpenSpec.ofChange fnScriptKeepsLevelInvariantSpec)

/-- ITS FALSE NEIGHBOUR: 'it returns false'. Refute it at one input. -/
def fnScriptKeepsLevelInvariantWrong : ChangeSpec := { name := "fnScriptKeepsLevelInvariant", fn := fun _ => fun
  | [d] => { results := [.lit (.bool false)], args := [d] }
  | _ => none }
def FnScriptKeepsLevelInvariantWrongFalsely : Prop := fnScriptKeepsLevelInvariantRow.holds Try.pinned (OpenSpec.ofChange fnScriptKeepsLevelInvariantWrong)

/-- 'zzlaws_internal_intset_b1.FnAddIdempotent': WHATEVER THE INPUT: true; the input reads as it did. -/
def fnAddIdempotentSpec : ChangeSpec := { name := "fnAddIdempotent", fn := fun _ => fun
  | [d1, d2] => { results := [.lit (.bool true)], args := [d1, d2] }
  | _ => none }
def fnAddIdempotentRow : OpenClaim := { program := "qxb6000573a", sum := "6af8b832d01c2d6d505691c829bbbcf6be3da49cbbe3bb0ea1cd5dd6bce6322b", func := "example.com/quotawire/quotawire/zzlaws_internal_intset_b1.FnAddIdempotent", spec := "fnAddIdempotent", apart := false }
def FnAddIdempotentSaid : Prop := fnAddIdempotentRow.holds Try.pinned (OpenSpec.ofChange fnAddIdempotentSpec)

/-- ITS FALSE NEIGHBOUR: 'it returns false'. Refute it at one input. -/
def fnAddIdempotentWrong : ChangeSpec := { name := "fnAddIdempotent", fn := fun _ => fun
  | [d1, d2] => { results := [.lit (.bool false)], args := [d1, d2] }
  | _ => none }
def FnAddIdempotentWrongFalsely : Prop := fnAddIdempotentRow.holds Try.pinned (OpenSpec.ofChange fnAddIdempotentWrong)

/-- 'zzlaws_internal_intset_b1.FnRemoveExactAndIdempotent': WHATEVER THE INPUT: true; the input reads as it did. -/
def fnRemoveExactAndIdempotentSpec : ChangeSpec := { name := "fnRemoveExactAndIdempotent", fn := fun _ => fun
  | [d1, d2] => { results := [.lit (.bool true)], args := [d1, d2] }
  | _ => none }
def fnRemoveExactAndIdempotentRow : OpenClaim := { program := "qxb6000573a", sum := "6af8b832d01c2d6d505691c829bbbcf6be3da49cbbe3bb0ea1cd5dd6bce6322b", func := "example.com/quotawire/quotawire/zzlaws_internal_intset_b1.FnRemoveExactAndIdempotent", spec := "fnRemoveExactAndIdempotent", apart := false }
def FnRemoveExactAndIdempotentSaid : Prop := fnRemoveExactAndIdempotentRow.holds Try.pinned (OpenSpec.ofChange fnRemoveExactAndIdempotentSpec)

/-- ITS FALSE NEIGHBOUR: 'it returns false'. Refute it at one input. -/
def fnRemoveExactAndIdempotentWrong : ChangeSpec := { name := "fnRemoveExactAndIdempotent", fn := fun _ => fun
  | [d1, d2] => { results := [.lit (.bool false)], args := [d1, d2] }
  | _ => none }
def FnRemoveExactAndIdempotentWrongFalsely : Prop := fnRemoveExactAndIdempotentRow.holds Try.pinned (OpenSpec.ofChange fnRemoveExactAndIdempotentWrong)

/-- 'zzlaws_internal_intset_b1.FnAddThenRemoveEqualsGrow': WHATEVER THE INPUT: true; the input reads as it did. -/
def fnAddThenRemoveEqualsGrowSpec : ChangeSpec := { name := "fnAddThenRemoveEqualsGrow", fn := fun _ => fun
  | [d1, d2] => { results := [.lit (.bool true)], args := [d1, d2] }
  | _ => none }
def fnAddThenRemoveEqualsGrowRow : OpenClaim := { program := "qxb6000573a", sum := "6af8b832d01c2d6d505691c829bbbcf6be3da49cbbe3bb0ea1cd5dd6bce6322b", func := "example.com/quotawire/quotawire/zzlaws_internal_intset_b1.FnAddThenRemoveEqualsGrow", spec := "fnAddThenRemoveEqualsGrow", apart := false }
def FnAddThenRemoveEqualsGrowSaid : Prop := fnAddThenRemoveEqualsGrowRow.holds Try.pinned (OpenSpec.ofChange fnAddThenRemoveEqualsGrowSpec)

/-- ITS FALSE NEIGHBOUR: 'it returns false'. Refute it at one input. -/
def fnAddThenRemoveEqualsGrowWrong : ChangeSpec := { name := "fnAddThenRemoveEqualsGrow", fn := fun _ => fun
  | [d1, d2] => { results := [.lit (.bool false)], args := [d1, d2] }
  | _ => none }
def FnAddThenRemoveEqualsGrowWrongFalsely : Prop := fnAddThenRemoveEqualsGrowRow.holds Try.pinned (OpenSpec.ofChange fnAddThenRemoveEqualsGrowWrong)

/-- 'zzlaws_internal_intset_b1.FnGrowKeepsWordsAndInvariant': WHATEVER THE INPUT: true; the input reads as it did. -/
def fnGrowKeepsWordsAndInvariantSpec : ChangeSpec := { name := "fnGrowKeepsWordsAndInvariant", fn := fun _ => fun
  | [d1, d2] => { results := [.lit (.bool true)], args := [d1, d2] }
  | _ => none }
def fnGrowKeepsWordsAndInvariantRow : OpenClaim := { program := "qxb6000573a", sum := "6af8b832d01c2d6d505691c829bbbcf6be3da49cbbe3bb0ea1cd5dd6bce6322b", func := "example.com/quotawire/quotawire/zzlaws_internal_intset_b1.FnGrowKeepsWordsAndInvariant", spec := "fnGrowKeepsWordsAndInvariant", apart := false }
def FnGrowKeepsWordsAndInvariantSaid : Prop := fnGrowKeepsWordsAndInvariantRow.holds Try.pinned (OpenSpec.ofChange fnGrowKeepsWordsAndInvariantSpec)

/-- ITS FALSE NEIGHBOUR: 'it returns false'. Refute it at one input. -/
def fnGrowKeepsWordsAndInvariantWrong : ChangeSpec := { name := "fnGrowKeepsWordsAndInvariant", fn := fun _ => fun
  | [d1, d2] => { results := [.lit (.bool false)], args := [d1, d2] }
  | _ => none }
def FnGrowKeepsWordsAndInvariantWrongFalsely : Prop := fnGrowKeepsWordsAndInvariantRow.holds Try.pinned (OpenSpec.ofChange fnGrowKeepsWordsAndInvariantWrong)

/-- 'zzlaws_internal_intset_b1.FnGrowIdempotentAndNoShrink': WHATEVER THE INPUT: true; the input reads as it did. -/
def fnGrowIdempotentAndNoShrinkSpec : ChangeSpec := { name := "fnGrowIdempotentAndNoShrink", fn := fun _ => fun
  | [d1, d2, d3] => { results := [.lit (.bool true)], args := [d1, d2, d3] }
  | _ => none }
def fnGrowIdempotentAndNoShrinkRow : OpenClaim := { program := "qxb6000573a", sum := "6af8b832d01c2d6d505691c829bbbcf6be3da49cbbe3bb0ea1cd5dd6bce6322b", func := "example.com/quotawire/quotawire/zzlaws_internal_intset_b1.FnGrowIdempotentAndNoShrink", spec := "fnGrowIdempotentAndNoShrink", apart := false }
def FnGrowIdempotentAndNoShrinkSaid : Prop := fnGrowIdempotentAndNoShrinkRow.holds Try.pinned (OpenSpec.ofChange fnGrowIdempotentAndNoShrinkSpec)

/-- ITS FALSE NEIGHBOUR: 'it returns false'. Refute it at one input. -/
def fnGrowIdempotentAndNoShrinkWrong : ChangeSpec := { name := "fnGrowIdempotentAndNoShrink", fn := fun _ => fun
  | [d1, d2, d3] => { results := [.lit (.bool false)], args := [d1, d2, d3] }
  | _ => none }
def FnGrowIdempotentAndNoShrinkWrongFalsely : Prop := fnGrowIdempotentAndNoShrinkRow.holds Try.pinned (OpenSpec.ofChange fnGrowIdempotentAndNoShrinkWrong)

end Rows
end Go.Proofs.Qxb6000573a
