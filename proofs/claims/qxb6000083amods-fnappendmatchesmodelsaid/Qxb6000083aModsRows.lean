/-
  No cell of these rows narrows 'for every input' (looked for: loops, veiled, ifaces, maps, wideKeys, modest, calm, conditions, laid).
  DERIVED. THE GIVEN ROWS OF THIS SEAT. 6 by the template 'for every input the law returns true; each argument reads behind the call as it read before'; 0 by the template 'total and deterministic' (their statements: Qxb6000083aModsTotals.lean).
  GIVEN WITH THE SEED: the statements are not yours to turn. If you find one false, say at which input.
  Laid BY PROGRAM, IN A SANDBOX (cutbox-rows.mjs): the forced cells as the released guide's own fill.sh prints them over the translation 413c5cc7dd9bd232… (all of the seat's roots in one cut). By AI agents, Wed Nov 11 2026. No macro, syntax, notation, axiom, sorry.
-/
import Derived.Test.Qxb6000083aModsChecked
import GoSem.Claim
import GoSem.ClaimJoined
import GoSem.ClaimMapViews
import Derived.JoinedTies
import Derived.KernelRfl
namespace Go.Proofs.Qxb6000083aMods
/- THE CELL 'sum', in the pinned program and in every row, IS THE sha256 OF THE DUMP (.gsa) THAT Qxb6000083aModsProg.lean LOADS. Nothing in Lean hashes anything: it is a label: what it is worth is what the hold of that sum in a sandbox is worth. -/
noncomputable def Trym.pinned : Pinned := { name := "qxb6000083amods", sum := "413c5cc7dd9bd2321c7a75ef2a84ed05e3a59769ee46b6b574c3917518c4be91", checked := Trym.checked }
namespace Rows
def none {H : Type} : Left H := { results := [], args := [] }

/-- 'zzlaws_internal_limit_b1.FnReadNumberMatchesModel': WHATEVER THE INPUT: true; the input reads as it did. -/
def fnReadNumberMatchesModelSpec : ChangeSpec := { name := "fnReadNumberMatchesModel", fn := fun _ => fun
  | [d] => { results := [.lit (.bool true)], args := [d] }
  | _ => none }
def fnReadNumberMatchesModelRow : OpenClaim := { program := "qxb6000083amods", sum := "413c5cc7dd9bd2321c7a75ef2a84ed05e3a59769ee46b6b574c3917518c4be91", func := "example.com/lone-table/lone-table/zzlaws_internal_limit_b1.FnReadNumberMatchesModel", spec := "fnReadNumberMatchesModel", make := .lifted ["publicsums"], apart := false }
def FnReadNumberMatchesModelSaid : Prop := fnReadNumberMatchesModelRow.holds Trym.pinned (OpenSpec.ofChange fnReadNumberMatchesModelSpec)

/-- ITS FALSE NEIGHBOUR: 'it returns false'. Refute it at one input. -/
def fnReadNumberMatchesModelWrong : ChangeSpec := { name := "fnReadNumberMatchesModel", fn := fun _ => fun
  | [d] => { results := [.lit (.bool false)], args := [d] }
  | _ => none }
def FnReadNumberMatchesModelWrongFalsely : Prop := fnReadNumberMatchesModelRow.holds Trym.pinned (OpenSpec.ofChange fnReadNumberMatchesModelWrong)

/-- 'zzlaws_internal_limit_b1.FnReadNumberSignPrefix': WHATEVER THE INPUT: true; the input reads as it did. -/
def fnReadNumberSignPrefixSpec : ChangeSpec := { name := "fnReadNumberSignPrefix", fn := fun _ => fun
  | [d] => { results := [.lit (.bool true)], args := [d] }
  | _ => none }
def fnReadNumberSignPrefixRow : OpenClaim := { program := "qxb6000083amods", sum := "413c5cc7dd9bd2321c7a75ef2a84ed05e3a59769ee46b6b574c3917518c4be91", func := "example.com/lone-table/lone-table/zzlaws_internal_limit_b1.FnReadNumberSignPrefix", spec := "fnReadNumberSignPrefix", make := .lifted ["publicsums"], apart := false }
def FnReadNumberSignPrefixSaid : Prop := fnReadNumberSignPrefixRow.holds Trym.pinned (OpenSpec.ofChange fnReadNumberSignPrefixSpec)

/-- ITS FALSE NEIGHBOUR: 'it returns false'. Refute it at one input. -/
def fnReadNumberSignPrefixWrong : ChangeSpec := { name := "fnReadNumberSignPrefix", fn := fun _ => fun
  | [d] => { results := [.lit (.bool false)], args := [d] }
  | _ => none }
def FnReadNumberSignPrefixWrongFalsely : Prop := fnReadNumberSignPrefixRow.holds Trym.pinned (OpenSpec.ofChange fnReadNumberSignPrefixWrong)

/-- 'zzlaws_internal_limit_b1.FnReadAppendReadIsStable': WHATEVER THE INPUT: true; the input reads as it did. -/
def fnReadAppendReadIsStableSpec : ChangeSpec := { name := "fnReadAppendReadIsStable", fn := fun _ => fun
  | [d] => { results := [.lit (.bool true)], args := [d] }
  | _ => none }
def fnReadAppendReadIsStableRow : OpenClaim := { program := "qxb6000083amods", sum := "413c5cc7dd9bd2321c7a75ef2a84ed05e3a59769ee46b6b574c3917518c4be91", func := "example.com/lone-table/lone-table/zzlaws_internal_limit_b1.FnReadAppendReadIsStable", spec := "fnReadAppendReadIsStable", make := .lifted ["publicsums"], apart := false }
def FnReadAppendReadIsStableSaid : Prop := fnReadAppendReadIsStableRow.holds Trym.pinned (OpenSpec.ofChange fnReadAppendReadIsStableSpec)

/-- ITS FALSE NEIGHBOUR: 'it returns false'. Refute it at one input. -/
def fnReadAppendReadIsStableWrong : ChangeSpec := { name := "fnReadAppendReadIsStable", fn := fun _ => fun
  | [d] => { results := [.lit (.bool false)], args := [d] }
  | _ => none }
def FnReadAppendReadIsStableWrongFalsely : Prop := fnReadAppendReadIsStableRow.holds Trym.pinned (OpenSpec.ofChange fnReadAppendReadIsStableWrong)

/-- 'zzlaws_internal_limit_b1.FnAppendMatchesModel': WHATEVER THE INPUT: true; the input reads as it did. -/
def fnAppendMatchesModelSpec : ChangeSpec := { name := "fnAppendMatchesModel", fn := fun _ => fun
  | [d1, d2, d3, d4] => { results := [.lit (.bool true)], args := [d1, d2, d3, d4] }
  | _ => none }
def fnAppendMatchesModelRow : OpenClaim := { program := "qxb6000083amods", sum := "413c5cc7dd9bd2321c7a75ef2a84ed05e3a59769ee46b6b574c3917518c4be91", func := "example.com/lone-table/lone-table/zzlaws_internal_limit_b1.FnAppendMatchesModel", spec := "fnAppendMatchesModel", make := .lifted ["publicsums"], apart := false }
def FnAppendMatchesModelSaid : Prop := fnAppendMatchesModelRow.holds Trym.pinned (OpenSpec.ofChange fnAppendMatchesModelSpec)

/-- ITS FALSE NEIGHBOUR: 'it returns false'. Refute it at one input. -/
def fnAppendMatchesModelWrong : ChangeSpec := { name := "fnAppendMatchesModel", fn := fun _ => fun
  | [d1, d2, d3, d4] => { results := [.lit (.bool false)], args := [d1, d2, d3, d4] }
  | _ => none }
def FnAppendMatchesModelWrongFalsely : Prop := fnAppendMatchesModelRow.holds Trym.pinned (OpenSpec.ofChange fnAppendMatchesModelWrong)

/-- 'zzlaws_internal_limit_b1.FnAppendReadsBack': WHATEVER THE INPUT: true; the input reads as it did. -/
def fnAppendReadsBackSpec : ChangeSpec := { name := "fnAppendReadsBack", fn := fun _ => fun
  | [d1, d2, d3] => { results := [.lit (.bool true)], args := [d1, d2, d3] }
  | _ => none }
def fnAppendReadsBackRow : OpenClaim := { program := "qxb6000083amods", sum := "413c5cc7dd9bd2321c7a75ef2a84ed05e3a59769ee46b6b574c3917518c4be91", func := "example.com/lone-table/lone-table/zzlaws_internal_limit_b1.FnAppendReadsBack", spec := "fnAppendReadsBack", make := .lifted ["publicsums"], apart := false }
def FnAppendReadsBackSaid : Prop := fnAppendReadsBackRow.holds Trym.pinned (OpenSpec.ofChange fnAppendReadsBackSpec)

/-- ITS FALSE NEIGHBOUR: 'it returns false'. Refute it at one input. -/
def fnAppendReadsBackWrong : ChangeSpec := { name := "fnAppendReadsBack", fn := fun _ => fun
  | [d1, d2, d3] => { results := [.lit (.bool false)], args := [d1, d2, d3] }
  | _ => none }
def FnAppendReadsBackWrongFalsely : Prop := fnAppendReadsBackRow.holds Trym.pinned (OpenSpec.ofChange fnAppendReadsBackWrong)

/-- 'zzlaws_internal_limit_b1.FnKeyOrdersAsNumbers': WHATEVER THE INPUT: true; the input reads as it did. -/
def fnKeyOrdersAsNumbersSpec : ChangeSpec := { name := "fnKeyOrdersAsNumbers", fn := fun _ => fun
  | [d1, d2, d3, d4, d5, d6] => { results := [.lit (.bool true)], args := [d1, d2, d3, d4, d5, d6] }
  | _ => none }
def fnKeyOrdersAsNumbersRow : OpenClaim := { program := "qxb6000083amods", sum := "413c5cc7dd9bd2321c7a75ef2a84ed05e3a59769ee46b6b574c3917518c4be91", func := "example.com/lone-table/lone-table/zzlaws_internal_limit_b1.FnKeyOrdersAsNumbers", spec := "fnKeyOrdersAsNumbers", make := .lifted ["publicsums"], apart := false }
def FnKeyOrdersAsNumbersSaid : Prop := fnKeyOrdersAsNumbersRow.holds Trym.pinned (OpenSpec.ofChange fnKeyOrdersAsNumbersSpec)

/-- ITS FALSE NEIGHBOUR: 'it returns false'. Refute it at one input. -/
def fnKeyOrdersAsNumbersWrong : ChangeSpec := { name := "fnKeyOrdersAsNumbers", fn := fun _ => fun
  | [d1, d2, d3, d4, d5, d6] => { results := [.lit (.bool false)], args := [d1, d2, d3, d4, d5, d6] }
  | _ => none }
def FnKeyOrdersAsNumbersWrongFalsely : Prop := fnKeyOrdersAsNumbersRow.holds Trym.pinned (OpenSpec.ofChange fnKeyOrdersAsNumbersWrong)

end Rows
end Go.Proofs.Qxb6000083aMods
