/-
  No cell of these rows narrows 'for every input' (looked for: loops, veiled, ifaces, maps, wideKeys, modest, calm, conditions, laid).
  DERIVED. THE GIVEN ROWS OF THIS SEAT. 2 by the template 'for every input the law returns true; each argument reads behind the call as it read before'; 0 by the template 'total and deterministic' (their statements: Qxb6628299aTotals.lean).
  GIVEN WITH THE SEED: the statements are not yours to turn. If you find one false, say at which input.
  Laid BY PROGRAM, IN A SANDBOX (cutbox-rows.mjs): the forced cells as the released guide's own fill.sh prints them over the translation 4f95ec183b8ffd07… (all of the seat's roots in one cut). By AI agents, Wed Nov 11 2026. No macro, syntax, notation, axiom, sorry.
-/
import Derived.Test.Qxb6628299aChecked
import GoSem.Claim
import GoSem.ClaimJoined
import GoSem.ClaimMapViews
import Derived.JoinedTies
import Derived.KernelRfl
namespace Go.Proofs.Qxb6628299a
/- THE CELL 'sum', in the pinned program and in every row, IS THE sha256 OF THE DUMP (.gsa) THAT Qxb6628299aProg.lean LOADS. Nothing in Lean hashes anything: it is a label: what it is worth is what the hold of that sum in a sandbox is worth. -/
noncomputable def Try.pinned : Pinned := { name := "qxb6628299a", sum := "4f95ec183b8ffd07bf5500c1b44337ac431ee32eff5aa5588da27dc0c0f9105f", checked := Try.checked }
namespace Rows
def none {H : Type} : Left H := { results := [], args := [] }

/-- 'zzlaws_internal_job_b1.FnIsVariableNameSplitAtAnyCut': WHATEVER THE INPUT: true; the input reads as it did. -/
def fnIsVariableNameSplitAtAnyCutSpec : ChangeSpec := { name := "fnIsVariableNameSplitAtAnyCut", fn := fun _ => fun
  | [d1, d2] => { results := [.lit (.bool true)], args := [d1, d2] }
  | _ => none }
def fnIsVariableNameSplitAtAnyCutRow : OpenClaim := { program := "qxb6628299a", sum := "4f95ec183b8ffd07bf5500c1b44337ac431ee32eff5aa5588da27dc0c0f9105f", func := "example.com/lekha/lekha/zzlaws_internal_job_b1.FnIsVariableNameSplitAtAnyCut", spec := "fnIsVariableNameSplitAtAnyCut", apart := false }
def FnIsVariableNameSplitAtAnyCutSaid : Prop := fnIsVariableNameSplitAtAnyCutRow.holds Try.pinned (OpenSpec.ofChange fnIsVariableNameSplitAtAnyCutSpec)

/-- ITS FALSE NEIGHBOUR: 'it returns false'. Refute it at one input. -/
def fnIsVariableNameSplitAtAnyCutWrong : ChangeSpec := { name := "fnIsVariableNameSplitAtAnyCut", fn := fun _ => fun
  | [d1, d2] => { results := [.lit (.bool false)], args := [d1, d2] }
  | _ => none }
def FnIsVariableNameSplitAtAnyCutWrongFalsely : Prop := fnIsVariableNameSplitAtAnyCutRow.holds Try.pinned (OpenSpec.ofChange fnIsVariableNameSplitAtAnyCutWrong)

/-- 'zzlaws_internal_job_b1.FnIsVariableNameOneByteInsertedAnywhere': WHATEVER THE INPUT: true; the input reads as it did. -/
def fnIsVariableNameOneByteInsertedAnywhereSpec : ChangeSpec := { name := "fnIsVariableNameOneByteInsertedAnywhere", fn := fun _ => fun
  | [d1, d2] => { results := [.lit (.bool true)], args := [d1, d2] }
  | _ => none }
def fnIsVariableNameOneByteInsertedAnywhereRow : OpenClaim := { program := "qxb6628299a", sum := "4f95ec183b8ffd07bf5500c1b44337ac431ee32eff5aa5588da27dc0c0f9105f", func := "example.com/lekha/lekha/zzlaws_internal_job_b1.FnIsVariableNameOneByteInsertedAnywhere", spec := "fnIsVariableNameOneByteInsertedAnywhere", apart := false }
def FnIsVariableNameOneByteInsertedAnywhereSaid : Prop := fnIsVariableNameOneByteInsertedAnywhereRow.holds Try.pinned (OpenSpec.ofChange fnIsVariableNameOneByteInsertedAnywhereSpec)

/-- ITS FALSE NEIGHBOUR: 'it returns false'. Refute it at one input. -/
def fnIsVariableNameOneByteInsertedAnywhereWrong : ChangeSpec := { name := "fnIsVariableNameOneByteInsertedAnywhere", fn := fun _ => fun
  | [d1, d2] => { results := [.lit (.bool false)], args := [d1, d2] }
  | _ => none }
def FnIsVariableNameOneByteInsertedAnywhereWrongFalsely : Prop := fnIsVariableNameOneByteInsertedAnywhereRow.holds Try.pinned (OpenSpec.ofChange fnIsVariableNameOneByteInsertedAnywhereWrong)

end Rows
end Go.Proofs.Qxb6628299a
