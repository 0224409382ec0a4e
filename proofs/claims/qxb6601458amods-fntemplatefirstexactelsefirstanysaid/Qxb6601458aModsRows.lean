/-
  No cell of these rows narrows 'for every input' (looked for: loops, veiled, ifaces, maps, wideKeys, modest, calm, conditions, laid).
  DERIVED. THE GIVEN ROWS OF THIS SEAT. 3 by the template 'for every input the law returns true; each argument reads behind the call as it read before'; 0 by the template 'total and deterministic' (their statements: Qxb6601458aModsTotals.lean).
  GIVEN WITH THE SEED: the statements are not yours to turn. If you find one false, say at which input.
  Laid BY PROGRAM, IN A SANDBOX (cutbox-rows.mjs): the forced cells as the released guide's own fill.sh prints them over the translation 4a30fabfc17949fc… (all of the seat's roots in one cut). By AI agents, Wed Nov 11 2026. No macro, syntax, notation, axiom, sorry.
-/
import Derived.Test.Qxb6601458aModsChecked
import GoSem.Claim
import GoSem.ClaimJoined
import GoSem.ClaimMapViews
import Derived.JoinedTies
import Derived.KernelRfl
namespace Go.Proofs.Qxb6601458aMods
/- THE CELL 'sum', in the pinned program and in every row, IS THE sha256 OF THE DUMP (.gsa) THAT Qxb6601458aModsProg.lean LOADS. Nothing in Lean hashes anything: it is a label: what it is worth is what the hold of that sum in a sandbox is worth. -/
noncomputable def Trym.pinned : Pinned := { name := "qxb6601458amods", sum := "4a30fabfc17949fcbf1889443cd74948577a9d326881cf7ef0a0538c53e5a70e", checked := Trym.checked }
namespace Rows
def none {H : Type} : Left H := { results := [], args := [] }

/-- 'zzlaws_internal_api_v1_b1.FnTemplateFirstExactElseFirstAny': WHATEVER THE INPUT: true; the input reads as it did. -/
def fnTemplateFirstExactElseFirstAnySpec : ChangeSpec := { name := "fnTemplateFirstExactElseFirstAny", fn := fun _ => fun
  | [d1, d2] => { results := [.lit (.bool true)], args := [d1, d2] }
  | _ => none }
def fnTemplateFirstExactElseFirstAnyRow : OpenClaim := { program := "qxb6601458amods", sum := "4a30fabfc17949fcbf1889443cd74948577a9d326881cf7ef0a0538c53e5a70e", func := "example.com/ligature/ligature/zzlaws_internal_api_v1_b1.FnTemplateFirstExactElseFirstAny", spec := "fnTemplateFirstExactElseFirstAny", make := .lifted ["publicsums"], apart := false }
def FnTemplateFirstExactElseFirstAnySaid : Prop := fnTemplateFirstExactElseFirstAnyRow.holds Trym.pinned (OpenSpec.ofChange fnTemplateFirstExactElseFirstAnySpec)

/-- ITS FALSE NEIGHBOUR: 'it returns false'. Refute it at one input. -/
def fnTemplateFirstExactElseFirstAnyWrong : ChangeSpec := { name := "fnTemplateFirstExactElseFirstAny", fn := fun _ => fun
  | [d1, d2] => { results := [.lit (.bool false)], args := [d1, d2] }
  | _ => none }
def FnTemplateFirstExactElseFirstAnyWrongFalsely : Prop := fnTemplateFirstExactElseFirstAnyRow.holds Trym.pinned (OpenSpec.ofChange fnTemplateFirstExactElseFirstAnyWrong)

/-- 'zzlaws_internal_api_v1_b1.FnTemplateAgreesOnDeepCopy': WHATEVER THE INPUT: true; the input reads as it did. -/
def fnTemplateAgreesOnDeepCopySpec : ChangeSpec := { name := "fnTemplateAgreesOnDeepCopy", fn := fun _ => fun
  | [d1, d2] => { results := [.lit (.bool true)], args := [d1, d2] }
  | _ => none }
def fnTemplateAgreesOnDeepCopyRow : OpenClaim := { program := "qxb6601458amods", sum := "4a30fabfc17949fcbf1889443cd74948577a9d326881cf7ef0a0538c53e5a70e", func := "example.com/ligature/ligature/zzlaws_internal_api_v1_b1.FnTemplateAgreesOnDeepCopy", spec := "fnTemplateAgreesOnDeepCopy", make := .lifted ["publicsums"], apart := false }
def FnTemplateAgreesOnDeepCopySaid : Prop := fnTemplateAgreesOnDeepCopyRow.holds Trym.pinned (OpenSpec.ofChange fnTemplateAgreesOnDeepCopySpec)

/-- ITS FALSE NEIGHBOUR: 'it returns false'. Refute it at one input. -/
def fnTemplateAgreesOnDeepCopyWrong : ChangeSpec := { name := "fnTemplateAgreesOnDeepCopy", fn := fun _ => fun
  | [d1, d2] => { results := [.lit (.bool false)], args := [d1, d2] }
  | _ => none }
def FnTemplateAgreesOnDeepCopyWrongFalsely : Prop := fnTemplateAgreesOnDeepCopyRow.holds Trym.pinned (OpenSpec.ofChange fnTemplateAgreesOnDeepCopyWrong)

/-- 'zzlaws_internal_api_v1_b1.FnDeepCopyIntoEqualAndIndependent': WHATEVER THE INPUT: true; the input reads as it did. -/
def fnDeepCopyIntoEqualAndIndependentSpec : ChangeSpec := { name := "fnDeepCopyIntoEqualAndIndependent", fn := fun _ => fun
  | [d1, d2] => { results := [.lit (.bool true)], args := [d1, d2] }
  | _ => none }
def fnDeepCopyIntoEqualAndIndependentRow : OpenClaim := { program := "qxb6601458amods", sum := "4a30fabfc17949fcbf1889443cd74948577a9d326881cf7ef0a0538c53e5a70e", func := "example.com/ligature/ligature/zzlaws_internal_api_v1_b1.FnDeepCopyIntoEqualAndIndependent", spec := "fnDeepCopyIntoEqualAndIndependent", make := .lifted ["publicsums"], apart := false }
def FnDeepCopyIntoEqualAndIndependentSaid : Prop := fnDeepCopyIntoEqualAndIndependentRow.holds Trym.pinned (OpenSpec.ofChange fnDeepCopyIntoEqualAndIndependentSpec)

/-- ITS FALSE NEIGHBOUR: 'it returns false'. Refute it at one input. -/
def fnDeepCopyIntoEqualAndIndependentWrong : ChangeSpec := { name := "fnDeepCopyIntoEqualAndIndependent", fn := fun _ => fun
  | [d1, d2] => { results := [.lit (.bool false)], args := [d1, d2] }
  | _ => none }
def FnDeepCopyIntoEqualAndIndependentWrongFalsely : Prop := fnDeepCopyIntoEqualAndIndependentRow.holds Trym.pinned (OpenSpec.ofChange fnDeepCopyIntoEqualAndIndependentWrong)

end Rows
end Go.Proofs.Qxb6601458aMods
