/-
  No cell of these rows narrows 'for every input' (looked for: loops, veiled, ifaces, maps, wideKeys, modest, calm, conditions, laid).
  DERIVED. THE GIVEN ROWS OF THIS SEAT. 2 by the template 'for every input the law returns true; each argument reads behind the call as it read before'; 0 by the template 'total and deterministic' (their statements: Qxb6628176aTotals.lean).
  GIVEN WITH THE SEED: the statements are not yours to turn. If you find one false, say at which input.
  Laid BY PROGRAM, IN A SANDBOX (cutbox-rows.mjs): the forced cells as the released guide's own fill.sh prints them over the translation 4b16377d265bda09… (all of the seat's roots in one cut). By AI agents, Wed Nov 11 2026. No macro, syntax, notation, axiom, sorry.
-/
import Derived.Test.Qxb6628176aChecked
import GoSem.Claim
import GoSem.ClaimJoined
import GoSem.ClaimMapViews
import Derived.JoinedTies
import Derived.KernelRfl
namespace Go.Proofs.Qxb6628176a
/- THE CELL 'sum', in the pinned program and in every row, IS THE sha256 OF THE DUMP (.gsa) THAT Qxb6628176aProg.lean LOADS. Nothing in Lean hashes anything: it is a label: what it is worth is what the hold of that sum in a sandbox is worth. -/
noncomputable def Try.pinned : Pinned := { name := "qxb6628176a", sum := "4b16377d265bda090f9c3d88063a8d95c8a855ad18aeb12db00732c0a8faeffa", checked := Try.checked }
namespace Rows
def none {H : Type} : Left H := { results := [], args := [] }

/-- 'zzlaws_internal_lattice_b1.FnBelowIsUnionOverDirectSubclasses': WHATEVER THE INPUT: true; the input reads as it did. -/
def fnBelowIsUnionOverDirectSubclassesSpec : ChangeSpec := { name := "fnBelowIsUnionOverDirectSubclasses", fn := fun _ => fun
  | [d1, d2, d3] => { results := [.lit (.bool true)], args := [d1, d2, d3] }
  | _ => none }
def fnBelowIsUnionOverDirectSubclassesRow : OpenClaim := { program := "qxb6628176a", sum := "4b16377d265bda090f9c3d88063a8d95c8a855ad18aeb12db00732c0a8faeffa", func := "example.com/consort/consort/zzlaws_internal_lattice_b1.FnBelowIsUnionOverDirectSubclasses", spec := "fnBelowIsUnionOverDirectSubclasses", unfollowed := true, recurses := true, apart := false }
def FnBelowIsUnionOverDirectSubclassesSaid : Prop := fnBelowIsUnionOverDirectSubclassesRow.holds Try.pinned (OpenSpec.ofChange fnBelowIsUnionOverDirectSubclassesSpec)

/-- ITS FALSE NEIGHBOUR: 'it returns false'. Refute it at one input. -/
def fnBelowIsUnionOverDirectSubclassesWrong : ChangeSpec := { name := "fnBelowIsUnionOverDirectSubclasses", fn := fun _ => fun
  | [d1, d2, d3] => { results := [.lit (.bool false)], args := [d1, d2, d3] }
  | _ => none }
def FnBelowIsUnionOverDirectSubclassesWrongFalsely : Prop := fnBelowIsUnionOverDirectSubclassesRow.holds Try.pinned (OpenSpec.ofChange fnBelowIsUnionOverDirectSubclassesWrong)

/-- 'zzlaws_internal_lattice_b1.FnBelowAfterDeclaringOneMoreClass': WHATEVER THE INPUT: true; the input reads as it did. -/
def fnBelowAfterDeclaringOneMoreClassSpec : ChangeSpec := { name := "fnBelowAfterDeclaringOneMoreClass", fn := fun _ => fun
  | [d1, d2, d3, d4, d5] => { results := [.lit (.bool true)], args := [d1, d2, d3, d4, d5] }
  | _ => none }
def fnBelowAfterDeclaringOneMoreClassRow : OpenClaim := { program := "qxb6628176a", sum := "4b16377d265bda090f9c3d88063a8d95c8a855ad18aeb12db00732c0a8faeffa", func := "example.com/consort/consort/zzlaws_internal_lattice_b1.FnBelowAfterDeclaringOneMoreClass", spec := "fnBelowAfterDeclaringOneMoreClass", unfollowed := true, recurses := true, apart := false }
def FnBelowAfterDeclaringOneMoreClassSaid : Prop := fnBelowAfterDeclaringOneMoreClassRow.holds Try.pinned (OpenSpec.ofChange fnBelowAfterDeclaringOneMoreClassSpec)

/-- ITS FALSE NEIGHBOUR: 'it returns false'. Refute it at one input. -/
def fnBelowAfterDeclaringOneMoreClassWrong : ChangeSpec := { name := "fnBelowAfterDeclaringOneMoreClass", fn := fun _ => fun
  | [d1, d2, d3, d4, d5] => { results := [.lit (.bool false)], args := [d1, d2, d3, d4, d5] }
  | _ => none }
def FnBelowAfterDeclaringOneMoreClassWrongFalsely : Prop := fnBelowAfterDeclaringOneMoreClassRow.holds Try.pinned (OpenSpec.ofChange fnBelowAfterDeclaringOneMoreClassWrong)

end Rows
end Go.Proofs.Qxb6628176a
