/-
  No cell of these rows narrows 'for every input' (looked for: loops, veiled, ifaces, maps, wideKeys, modest, calm, conditions, laid).
  DERIVED. THE GIVEN ROWS OF THIS SEAT. 1 by the template 'for every input the law returns true; each argument reads behind the call as it read before'; 0 by the template 'total and deterministic' (their statements: Qxb6628293aTotals.lean).
  GIVEN WITH THE SEED: the statements are not yours to turn. If you find one false, say at which input.
  Laid BY PROGRAM, IN A SANDBOX (cutbox-rows.mjs): the forced cells as the released guide's own fill.sh prints them over the translation 6a9bc2f576603f2c… (all of the seat's roots in one cut). By AI agents, Wed Nov 11 2026. No macro, syntax, notation, axiom, sorry.
-/
import Derived.Test.Qxb6628293aChecked
import GoSem.Claim
import GoSem.ClaimJoined
import GoSem.ClaimMapViews
import Derived.JoinedTies
import Derived.KernelRfl
namespace Go.Proofs.Qxb6628293a
/- THE CELL 'sum', in the pinned program and in every row, IS THE sha256 OF THE DUMP (.gsa) THAT Qxb6628293aProg.lean LOADS. Nothing in Lean hashes anything: it is a label: what it is worth is what the hold of that sum in a sandbox is worth. -/
noncomputable def Try.pinned : Pinned := { name := "qxb6628293a", sum := "6a9bc2f576603f2cb67cece5adc7b6fc8102a3c520a8f1f41c27263b74a3cc13", checked := Try.checked }
namespace Rows
def none {H : Type} : Left H := { results := [], args := [] }

/-- 'zzlaws_internal_yaml_b1.FnAppendJSONStringSplitsAtAnyCleanCut': WHATEVER THE INPUT: true; the input reads as it did. -/
def fnAppendJSONStringSplitsAtAnyCleanCutSpec : ChangeSpec := { name := "fnAppendJSONStringSplitsAtAnyCleanCut", fn := fun _ => fun
  | [d1, d2, d3] => { results := [.lit (.bool true)], args := [d1, d2, d3] }
  | _ => none }
def fnAppendJSONStringSplitsAtAnyCleanCutRow : OpenClaim := { program := "qxb6628293a", sum := "6a9bc2f576603f2cb67cece5adc7b6fc8102a3c520a8f1f41c27263b74a3cc13", func := "example.com/satchel/satchel/zzlaws_internal_yaml_b1.FnAppendJSONStringSplitsAtAnyCleanCut", spec := "fnAppendJSONStringSplitsAtAnyCleanCut", apart := false }
def FnAppendJSONStringSplitsAtAnyCleanCutSaid : Prop := fnAppendJSONStringSplitsAtAnyCleanCutRow.holds Try.pinned (OpenSpec.ofChange fnAppendJSONStringSplitsAtAnyCleanCutSpec)

/-- ITS FALSE NEIGHBOUR: 'it returns false'. Refute it at one input. -/
def fnAppendJSONStringSplitsAtAnyCleanCutWrong : ChangeSpec := { name := "fnAppendJSONStringSplitsAtAnyCleanCut", fn := fun _ => fun
  | [d1, d2, d3] => { results := [.lit (.bool false)], args := [d1, d2, d3] }
  | _ => none }
def FnAppendJSONStringSplitsAtAnyCleanCutWrongFalsely : Prop := fnAppendJSONStringSplitsAtAnyCleanCutRow.holds Try.pinned (OpenSpec.ofChange fnAppendJSONStringSplitsAtAnyCleanCutWrong)

end Rows
end Go.Proofs.Qxb6628293a
