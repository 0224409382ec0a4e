/-
  No cell of these rows narrows 'for every input' (looked for: loops, veiled, ifaces, maps, wideKeys, modest, calm, conditions, laid).
  DERIVED. THE GIVEN ROWS OF THIS SEAT. 6 by the template 'for every input the law returns true; each argument reads behind the call as it read before'; 0 by the template 'total and deterministic' (their statements: Qxb6000365aModsTotals.lean).
  GIVEN WITH THE SEED: the statements are not yours to turn. If you find one false, say at which input.
  Laid BY PROGRAM, IN A SANDBOX (cutbox-rows.mjs): the forced cells as the released guide's own fill.sh prints them over the translation fc102f72579be9c4… (all of the seat's roots in one cut). By AI agents, Wed Nov 11 2026. No macro, syntax, notation, axiom, sorry.
-/
import Derived.Test.Qxb6000365aModsChecked
import GoSem.Claim
import GoSem.ClaimJoined
import GoSem.ClaimMapViews
import Derived.JoinedTies
import Derived.KernelRfl
namespace Go.Proofs.Qxb6000365aMods
/- THE CELL 'sum', in the pinned program and in every row, IS THE sha256 OF THE DUMP (.gsa) THAT Qxb6000365aModsProg.lean LOADS. Nothing in Lean hashes anything: it is a label: what it is worth is what the hold of that sum in a sandbox is worth. -/
noncomputable def Trym.pinned : Pinned := { name := "qxb6000365amods", sum := "fc102f72579be9c45dec70abdfc1296791b0dd640683d52ba50434be3c6f71f4", checked := Trym.checked }
namespace Rows
def none {H : Type} : Left H := { results := [], args := [] }

/-- 'zzlaws_internal_api_v1beta2_b1.FnDependenciesDeepCopyIsIndependent': WHATEVER THE INPUT: true; the input reads as it did. -/
def fnDependenciesDeepCopyIsIndependentSpec : ChangeSpec := { name := "fnDependenciesDeepCopyIsIndependent", fn := fun _ => fun
  | [d1, d2, d3, d4, d5, d6, d7] => { results := [.lit (.bool true)], args := [d1, d2, d3, d4, d5, d6, d7] }
  | _ => none }
def fnDependenciesDeepCopyIsIndependentRow : OpenClaim := { program := "qxb6000365amods", sum := "fc102f72579be9c45dec70abdfc1296791b0dd640683d52ba50434be3c6f71f4", func := "example.com/coxswain/coxswain/zzlaws_internal_api_v1beta2_b1.FnDependenciesDeepCopyIsIndependent", spec := "fnDependenciesDeepCopyIsIndependent", make := .lifted ["publicsums"], apart := false }
def FnDependenciesDeepCopyIsIndependentSaid : Prop := fnDependenciesDeepCopyIsIndependentRow.holds Trym.pinned (OpenSpec.ofChange fnDependenciesDeepCopyIsIndependentSpec)

/-- ITS FALSE NEIGHBOUR: 'it returns false'. Refute it at one input. -/
def fnDependenciesDeepCopyIsIndependentWrong : ChangeSpec := { name := "fnDependenciesDeepCopyIsIndependent", fn := fun _ => fun
  | [d1, d2, d3, d4, d5, d6, d7] => { results := [.lit (.bool false)], args := [d1, d2, d3, d4, d5, d6, d7] }
  | _ => none }
def FnDependenciesDeepCopyIsIndependentWrongFalsely : Prop := fnDependenciesDeepCopyIsIndependentRow.holds Trym.pinned (OpenSpec.ofChange fnDependenciesDeepCopyIsIndependentWrong)

/-- 'zzlaws_internal_api_v1beta2_b1.FnDynamicAllocationDeepCopyIsIndependent': WHATEVER THE INPUT: true; the input reads as it did. -/
def fnDynamicAllocationDeepCopyIsIndependentSpec : ChangeSpec := { name := "fnDynamicAllocationDeepCopyIsIndependent", fn := fun _ => fun
  | [d1, d2, d3, d4, d5, d6] => { results := [.lit (.bool true)], args := [d1, d2, d3, d4, d5, d6] }
  | _ => none }
def fnDynamicAllocationDeepCopyIsIndependentRow : OpenClaim := { program := "qxb6000365amods", sum := "fc102f72579be9c45dec70abdfc1296791b0dd640683d52ba50434be3c6f71f4", func := "example.com/coxswain/coxswain/zzlaws_internal_api_v1beta2_b1.FnDynamicAllocationDeepCopyIsIndependent", spec := "fnDynamicAllocationDeepCopyIsIndependent", make := .lifted ["publicsums"], apart := false }
def FnDynamicAllocationDeepCopyIsIndependentSaid : Prop := fnDynamicAllocationDeepCopyIsIndependentRow.holds Trym.pinned (OpenSpec.ofChange fnDynamicAllocationDeepCopyIsIndependentSpec)

/-- ITS FALSE NEIGHBOUR: 'it returns false'. Refute it at one input. -/
def fnDynamicAllocationDeepCopyIsIndependentWrong : ChangeSpec := { name := "fnDynamicAllocationDeepCopyIsIndependent", fn := fun _ => fun
  | [d1, d2, d3, d4, d5, d6] => { results := [.lit (.bool false)], args := [d1, d2, d3, d4, d5, d6] }
  | _ => none }
def FnDynamicAllocationDeepCopyIsIndependentWrongFalsely : Prop := fnDynamicAllocationDeepCopyIsIndependentRow.holds Trym.pinned (OpenSpec.ofChange fnDynamicAllocationDeepCopyIsIndependentWrong)

/-- 'zzlaws_internal_api_v1beta2_b1.FnPrometheusSpecDeepCopyIsIndependent': WHATEVER THE INPUT: true; the input reads as it did. -/
def fnPrometheusSpecDeepCopyIsIndependentSpec : ChangeSpec := { name := "fnPrometheusSpecDeepCopyIsIndependent", fn := fun _ => fun
  | [d1, d2, d3, d4, d5] => { results := [.lit (.bool true)], args := [d1, d2, d3, d4, d5] }
  | _ => none }
def fnPrometheusSpecDeepCopyIsIndependentRow : OpenClaim := { program := "qxb6000365amods", sum := "fc102f72579be9c45dec70abdfc1296791b0dd640683d52ba50434be3c6f71f4", func := "example.com/coxswain/coxswain/zzlaws_internal_api_v1beta2_b1.FnPrometheusSpecDeepCopyIsIndependent", spec := "fnPrometheusSpecDeepCopyIsIndependent", make := .lifted ["publicsums"], apart := false }
def FnPrometheusSpecDeepCopyIsIndependentSaid : Prop := fnPrometheusSpecDeepCopyIsIndependentRow.holds Trym.pinned (OpenSpec.ofChange fnPrometheusSpecDeepCopyIsIndependentSpec)

/-- ITS FALSE NEIGHBOUR: 'it returns false'. Refute it at one input. -/
def fnPrometheusSpecDeepCopyIsIndependentWrong : ChangeSpec := { name := "fnPrometheusSpecDeepCopyIsIndependent", fn := fun _ => fun
  | [d1, d2, d3, d4, d5] => { results := [.lit (.bool false)], args := [d1, d2, d3, d4, d5] }
  | _ => none }
def FnPrometheusSpecDeepCopyIsIndependentWrongFalsely : Prop := fnPrometheusSpecDeepCopyIsIndependentRow.holds Trym.pinned (OpenSpec.ofChange fnPrometheusSpecDeepCopyIsIndependentWrong)

/-- 'zzlaws_internal_api_v1beta2_b1.FnDependenciesDeepCopyIsFaithful': WHATEVER THE INPUT: true; the input reads as it did. -/
def fnDependenciesDeepCopyIsFaithfulSpec : ChangeSpec := { name := "fnDependenciesDeepCopyIsFaithful", fn := fun _ => fun
  | [d1, d2, d3, d4, d5, d6, d7, d8] => { results := [.lit (.bool true)], args := [d1, d2, d3, d4, d5, d6, d7, d8] }
  | _ => none }
def fnDependenciesDeepCopyIsFaithfulRow : OpenClaim := { program := "qxb6000365amods", sum := "fc102f72579be9c45dec70abdfc1296791b0dd640683d52ba50434be3c6f71f4", func := "example.com/coxswain/coxswain/zzlaws_internal_api_v1beta2_b1.FnDependenciesDeepCopyIsFaithful", spec := "fnDependenciesDeepCopyIsFaithful", make := .lifted ["publicsums"], apart := false }
def FnDependenciesDeepCopyIsFaithfulSaid : Prop := fnDependenciesDeepCopyIsFaithfulRow.holds Trym.pinned (OpenSpec.ofChange fnDependenciesDeepCopyIsFaithfulSpec)

/-- ITS FALSE NEIGHBOUR: 'it returns false'. Refute it at one input. -/
def fnDependenciesDeepCopyIsFaithfulWrong : ChangeSpec := { name := "fnDependenciesDeepCopyIsFaithful", fn := fun _ => fun
  | [d1, d2, d3, d4, d5, d6, d7, d8] => { results := [.lit (.bool false)], args := [d1, d2, d3, d4, d5, d6, d7, d8] }
  | _ => none }
def FnDependenciesDeepCopyIsFaithfulWrongFalsely : Prop := fnDependenciesDeepCopyIsFaithfulRow.holds Trym.pinned (OpenSpec.ofChange fnDependenciesDeepCopyIsFaithfulWrong)

/-- 'zzlaws_internal_api_v1beta2_b1.FnDynamicAllocationDeepCopyIsFaithful': WHATEVER THE INPUT: true; the input reads as it did. -/
def fnDynamicAllocationDeepCopyIsFaithfulSpec : ChangeSpec := { name := "fnDynamicAllocationDeepCopyIsFaithful", fn := fun _ => fun
  | [d1, d2, d3, d4, d5, d6, d7, d8, d9] => { results := [.lit (.bool true)], args := [d1, d2, d3, d4, d5, d6, d7, d8, d9] }
  | _ => none }
def fnDynamicAllocationDeepCopyIsFaithfulRow : OpenClaim := { program := "qxb6000365amods", sum := "fc102f72579be9c45dec70abdfc1296791b0dd640683d52ba50434be3c6f71f4", func := "example.com/coxswain/coxswain/zzlaws_internal_api_v1beta2_b1.FnDynamicAllocationDeepCopyIsFaithful", spec := "fnDynamicAllocationDeepCopyIsFaithful", make := .lifted ["publicsums"], apart := false }
def FnDynamicAllocationDeepCopyIsFaithfulSaid : Prop := fnDynamicAllocationDeepCopyIsFaithfulRow.holds Trym.pinned (OpenSpec.ofChange fnDynamicAllocationDeepCopyIsFaithfulSpec)

/-- ITS FALSE NEIGHBOUR: 'it returns false'. Refute it at one input. -/
def fnDynamicAllocationDeepCopyIsFaithfulWrong : ChangeSpec := { name := "fnDynamicAllocationDeepCopyIsFaithful", fn := fun _ => fun
  | [d1, d2, d3, d4, d5, d6, d7, d8, d9] => { results := [.lit (.bool false)], args := [d1, d2, d3, d4, d5, d6, d7, d8, d9] }
  | _ => none }
def FnDynamicAllocationDeepCopyIsFaithfulWrongFalsely : Prop := fnDynamicAllocationDeepCopyIsFaithfulRow.holds Trym.pinned (OpenSpec.ofChange fnDynamicAllocationDeepCopyIsFaithfulWrong)

/-- 'zzlaws_internal_api_v1beta2_b1.FnPrometheusSpecDeepCopyIsFaithful': WHATEVER THE INPUT: true; the input reads as it did. -/
def fnPrometheusSpecDeepCopyIsFaithfulSpec : ChangeSpec := { name := "fnPrometheusSpecDeepCopyIsFaithful", fn := fun _ => fun
  | [d1, d2, d3, d4, d5, d6, d7, d8] => { results := [.lit (.bool true)], args := [d1, d2, d3, d4, d5, d6, d7, d8] }
  | _ => none }
def fnPrometheusSpecDeepCopyIsFaithfulRow : OpenClaim := { program := "qxb6000365amods", sum := "fc102f72579be9c45dec70abdfc1296791b0dd640683d52ba50434be3c6f71f4", func := "example.com/coxswain/coxswain/zzlaws_internal_api_v1beta2_b1.FnPrometheusSpecDeepCopyIsFaithful", spec := "fnPrometheusSpecDeepCopyIsFaithful", make := .lifted ["publicsums"], apart := false }
def FnPrometheusSpecDeepCopyIsFaithfulSaid : Prop := fnPrometheusSpecDeepCopyIsFaithfulRow.holds Trym.pinned (OpenSpec.ofChange fnPrometheusSpecDeepCopyIsFaithfulSpec)

/-- ITS FALSE NEIGHBOUR: 'it returns false'. Refute it at one input. -/
def fnPrometheusSpecDeepCopyIsFaithfulWrong : ChangeSpec := { name := "fnPrometheusSpecDeepCopyIsFaithful", fn := fun _ => fun
  | [d1, d2, d3, d4, d5, d6, d7, d8] => { results := [.lit (.bool false)], args := [d1, d2, d3, d4, d5, d6, d7, d8] }
  | _ => none }
def FnPrometheusSpecDeepCopyIsFaithfulWrongFalsely : Prop := fnPrometheusSpecDeepCopyIsFaithfulRow.holds Trym.pinned (OpenSpec.ofChange fnPrometheusSpecDeepCopyIsFaithfulWrong)

end Rows
end Go.Proofs.Qxb6000365aMods
