/-
  No cell of these rows narrows 'for every input' (looked for: loops, veiled, ifaces, maps, wideKeys, modest, calm, conditions, laid).
  DERIVED. THE GIVEN ROWS OF THIS SEAT. 2 by the template 'for every input the law returns true; each argument reads behind the call as it read before'; 0 by the template 'total and deterministic' (their statements: Qxb6628328aTotals.lean).
  GIVEN WITH THE SEED: the statements are not yours to turn. If you find one false, say at which input.
  Laid BY PROGRAM, IN A SANDBOX (cutbox-rows.mjs): the forced cells as the released guide's own fill.sh prints them over the translation a277cd66e1cda45f… (all of the seat's roots in one cut). By AI agents, Wed Nov 11 2026. No macro, syntax, notation, axiom, sorry.
-/
import Derived.Test.Qxb6628328aChecked
import GoSem.Claim
import GoSem.ClaimJoined
import GoSem.ClaimMapViews
import Derived.JoinedTies
import Derived.KernelRfl
namespace Go.Proofs.Qxb6628328a
/- THE CELL 'sum', in the pinned program and in every row, IS THE sha256 OF THE DUMP (.gsa) THAT Qxb6628328aProg.lean LOADS. Nothing in Lean hashes anything: it is a label: what it is worth is what the hold of that sum in a sandbox is worth. -/
noncomputable def Try.pinned : Pinned := { name := "qxb6628328a", sum := "a277cd66e1cda45f2e7d74856879d14634d354cda8aca512cdc9134b76b820ff", checked := Try.checked }
namespace Rows
def none {H : Type} : Left H := { results := [], args := [] }

/-- 'zzlaws_internal_failure_b1.FnGradeLaterRetriedFailureIsWarning': WHATEVER THE INPUT: true; the input reads as it did. -/
def fnGradeLaterRetriedFailureIsWarningSpec : ChangeSpec := { name := "fnGradeLaterRetriedFailureIsWarning", fn := fun _ => fun
  | [d1, d2, d3] => { results := [.lit (.bool true)], args := [d1, d2, d3] }
  | _ => none }
def fnGradeLaterRetriedFailureIsWarningRow : OpenClaim := { program := "qxb6628328a", sum := "a277cd66e1cda45f2e7d74856879d14634d354cda8aca512cdc9134b76b820ff", func := "example.com/penelope/penelope/zzlaws_internal_failure_b1.FnGradeLaterRetriedFailureIsWarning", spec := "fnGradeLaterRetriedFailureIsWarning", apart := false }
def FnGradeLaterRetriedFailureIsWarningSaid : Prop := fnGradeLaterRetriedFailureIsWarningRow.holds Try.pinned (OpenSpec.ofChange fnGradeLaterRetriedFailureIsWarningSpec)

/-- ITS FALSE NEIGHBOUR: 'it returns false'. Refute it at one input. -/
def fnGradeLaterRetriedFailureIsWarningWrong : ChangeSpec := { name := "fnGradeLaterRetriedFailureIsWarning", fn := fun _ => fun
  | [d1, d2, d3] => { results := [.lit (.bool false)], args := [d1, d2, d3] }
  | _ => none }
def FnGradeLaterRetriedFailureIsWarningWrongFalsely : Prop := fnGradeLaterRetriedFailureIsWarningRow.holds Try.pinned (OpenSpec.ofChange fnGradeLaterRetriedFailureIsWarningWrong)

/-- 'zzlaws_internal_failure_b1.FnGradeFinalAttemptIsErrorWhateverElse': WHATEVER THE INPUT: true; the input reads as it did. -/
def fnGradeFinalAttemptIsErrorWhateverElseSpec : ChangeSpec := { name := "fnGradeFinalAttemptIsErrorWhateverElse", fn := fun _ => fun
  | [d1, d2, d3, d4] => { results := [.lit (.bool true)], args := [d1, d2, d3, d4] }
  | _ => none }
def fnGradeFinalAttemptIsErrorWhateverElseRow : OpenClaim := { program := "qxb6628328a", sum := "a277cd66e1cda45f2e7d74856879d14634d354cda8aca512cdc9134b76b820ff", func := "example.com/penelope/penelope/zzlaws_internal_failure_b1.FnGradeFinalAttemptIsErrorWhateverElse", spec := "fnGradeFinalAttemptIsErrorWhateverElse", apart := false }
def FnGradeFinalAttemptIsErrorWhateverElseSaid : Prop := fnGradeFinalAttemptIsErrorWhateverElseRow.holds Try.pinned (OpenSpec.ofChange fnGradeFinalAttemptIsErrorWhateverElseSpec)

/-- ITS FALSE NEIGHBOUR: 'it returns false'. Refute it at one input. -/
def fnGradeFinalAttemptIsErrorWhateverElseWrong : ChangeSpec := { name := "fnGradeFinalAttemptIsErrorWhateverElse", fn := fun _ => fun
  | [d1, d2, d3, d4] => { results := [.lit (.bool false)], args := [d1, d2, d3, d4] }
  | _ => none }
def FnGradeFinalAttemptIsErrorWhateverElseWrongFalsely : Prop := fnGradeFinalAttemptIsErrorWhateverElseRow.holds Try.pinned (OpenSpec.ofChange fnGradeFinalAttemptIsErrorWhateverElseWrong)

end Rows
end Go.Proofs.Qxb6628328a
