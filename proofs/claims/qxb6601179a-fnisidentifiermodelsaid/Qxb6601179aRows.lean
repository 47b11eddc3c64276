/-
  No cell of these rows narrows 'for every input' (looked for: loops, veiled, ifaces, maps, wideKeys, modest, calm, conditions, laid).
  DERIVED. THE GIVEN ROWS OF THIS SEAT. 3 by the template 'for every input the law returns true; each argument reads behind the call as it read before'; 0 by the template 'total and deterministic' (their statements: Qxb6601179aTotals.lean).
  GIVEN WITH THE SEED: the statements are not yours to turn. If you find one false, say at which input.
  Laid BY PROGRAM, IN A SANDBOX (cutbox-rows.mjs): the forced cells as the released guide's own fill.sh prints them over the translation 5df7d558ae808d51… (all of the seat's roots in one cut). By AI agents, Wed Nov 11 2026. No macro, syntax, notation, axiom, sorry.
-/
import Derived.Test.Qxb6601179aChecked
import GoSem.Claim
import GoSem.ClaimJoined
import GoSem.ClaimMapViews
import Derived.JoinedTies
import Derived.KernelRfl
namespace Go.Proofs.Qxb6601179a
/- THE CELL 'sum', in the pinned program and in every row, IS THE sha256 OF THE DUMP (.gsa) THAT Qxb6601179aProg.lean LOADS. Nothing in Lean hashes anything: it is a label: what it is worth is what the hold of that sum in a sandbox is worth. -/
noncomputable def Try.pinned : Pinned := { name := "qxb6601179a", sum := "5df7d558ae808d51bb6c16d4fb75369df9bd908f5c339aed911ad1e478e96c34", checked := Try.checked }
namespace Rows
def none {H : Type} : Left H := { results := [], args := [] }

/-- 'zzlaws_cdr_b1.FnIsIdentifierModel': WHATEVER THE INPUT: true; the input reads as it did. -/
def fnIsIdentifierModelSpec : ChangeSpec := { name := "fnIsIdentifierModel", fn := fun _ => fun
  | [d] => { results := [.lit (.bool true)], args := [d] }
  | _ => none }
def fnIsIdentifierModelRow : OpenClaim := { program := "qxb6601179a", sum := "5df7d558ae808d51bb6c16d4fb75369df9bd908f5c339aed911ad1e478e96c34", func := "example.com/idiolect/idiolect/zzlaws_cdr_b1.FnIsIdentifierModel", spec := "fnIsIdentifierModel", apart := false }
def FnIsIdentifierModelSaid : Prop := fnIsIdentifierModelRow.holds Try.pinned (OpenSpec.ofChange fnIsIdentifierModelSpec)

/-- ITS FALSE NEIGHBOUR: 'it returns false'. Refute it at one input. -/
def fnIsIdentifierModelWrong : ChangeSpec := { name := "fnIsIdentifierModel", fn := fun _ => fun
  | [d] => { results := [.lit (.bool false)], args := [d] }
  | _ => none }
def FnIsIdentifierModelWrongFalsely : Prop := fnIsIdentifierModelRow.holds Try.pinned (OpenSpec.ofChange fnIsIdentifierModelWrong)

/-- 'zzlaws_cdr_b1.FnIsIdentifierSplit': WHATEVER THE INPUT: true; the input reads as it did. -/
def fnIsIdentifierSplitSpec : ChangeSpec := { name := "fnIsIdentifierSplit", fn := fun _ => fun
  | [d1, d2] => { results := [.lit (.bool true)], args := [d1, d2] }
  | _ => none }
def fnIsIdentifierSplitRow : OpenClaim := { program := "qxb6601179a", sum := "5df7d558ae808d51bb6c16d4fb75369df9bd908f5c339aed911ad1e478e96c34", func := "example.com/idiolect/idiolect/zzlaws_cdr_b1.FnIsIdentifierSplit", spec := "fnIsIdentifierSplit", apart := false }
def FnIsIdentifierSplitSaid : Prop := fnIsIdentifierSplitRow.holds Try.pinned (OpenSpec.ofChange fnIsIdentifierSplitSpec)

/-- ITS FALSE NEIGHBOUR: 'it returns false'. Refute it at one input. -/
def fnIsIdentifierSplitWrong : ChangeSpec := { name := "fnIsIdentifierSplit", fn := fun _ => fun
  | [d1, d2] => { results := [.lit (.bool false)], args := [d1, d2] }
  | _ => none }
def FnIsIdentifierSplitWrongFalsely : Prop := fnIsIdentifierSplitRow.holds Try.pinned (OpenSpec.ofChange fnIsIdentifierSplitWrong)

/-- 'zzlaws_cdr_b1.FnIsIdentifierCaseBlind': WHATEVER THE INPUT: true; the input reads as it did. -/
def fnIsIdentifierCaseBlindSpec : ChangeSpec := { name := "fnIsIdentifierCaseBlind", fn := fun _ => fun
  | [d] => { results := [.lit (.bool true)], args := [d] }
  | _ => none }
def fnIsIdentifierCaseBlindRow : OpenClaim := { program := "qxb6601179a", sum := "5df7d558ae808d51bb6c16d4fb75369df9bd908f5c339aed911ad1e478e96c34", func := "example.com/idiolect/idiolect/zzlaws_cdr_b1.FnIsIdentifierCaseBlind", spec := "fnIsIdentifierCaseBlind", apart := false }
def FnIsIdentifierCaseBlindSaid : Prop := fnIsIdentifierCaseBlindRow.holds Try.pinned (OpenSpec.ofChange fnIsIdentifierCaseBlindSpec)

/-- ITS FALSE NEIGHBOUR: 'it returns false'. Refute it at one input. -/
def fnIsIdentifierCaseBlindWrong : ChangeSpec := { name := "fnIsIdentifierCaseBlind", fn := fun _ => fun
  | [d] => { results := [.lit (.bool false)], args := [d] }
  | _ => none }
def FnIsIdentifierCaseBlindWrongFalsely : Prop := fnIsIdentifierCaseBlindRow.holds Try.pinned (OpenSpec.ofChange fnIsIdentifierCaseBlindWrong)

end Rows
end Go.Proofs.Qxb6601179a
