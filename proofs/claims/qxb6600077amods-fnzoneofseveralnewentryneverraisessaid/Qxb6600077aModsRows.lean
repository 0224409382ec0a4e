/-
  No cell of these rows narrows 'for every input' (looked for: loops, veiled, ifaces, maps, wideKeys, modest, calm, conditions, laid).
  DERIVED. THE GIVEN ROWS OF THIS SEAT. 4 by the template 'for every input the law returns true; each argument reads behind the call as it read before'; 0 by the template 'total and deterministic' (their statements: Qxb6600077aModsTotals.lean).
  GIVEN WITH THE SEED: the statements are not yours to turn. If you find one false, say at which input.
  Laid BY PROGRAM, IN A SANDBOX (cutbox-rows.mjs): the forced cells as the released guide's own fill.sh prints them over the translation 49da3ec6b0a224f4… (all of the seat's roots in one cut). By AI agents, Wed Nov 11 2026. No macro, syntax, notation, axiom, sorry.
-/
import Derived.Test.Qxb6600077aModsChecked
import GoSem.Claim
import GoSem.ClaimJoined
import GoSem.ClaimMapViews
import Derived.JoinedTies
import Derived.KernelRfl
namespace Go.Proofs.Qxb6600077aMods
/- THE CELL 'sum', in the pinned program and in every row, IS THE sha256 OF THE DUMP (.gsa) THAT Qxb6600077aModsProg.lean LOADS. Nothing in Lean hashes anything: it is a label: what it is worth is what the hold of that sum in a sandbox is worth. -/
noncomputable def Trym.pinned : Pinned := { name := "qxb6600077amods", sum := "49da3ec6b0a224f48bc8b7a7534025e47395afa3a35414647c6dd0092be580ef", checked := Trym.checked }
namespace Rows
def none {H : Type} : Left H := { results := [], args := [] }

/-- 'zzlaws_root_b1.FnZoneOfSeveralIsLowestSharedZone': WHATEVER THE INPUT: true; the input reads as it did. -/
def fnZoneOfSeveralIsLowestSharedZoneSpec : ChangeSpec := { name := "fnZoneOfSeveralIsLowestSharedZone", fn := fun _ => fun
  | [d1, d2] => { results := [.lit (.bool true)], args := [d1, d2] }
  | _ => none }
def fnZoneOfSeveralIsLowestSharedZoneRow : OpenClaim := { program := "qxb6600077amods", sum := "49da3ec6b0a224f48bc8b7a7534025e47395afa3a35414647c6dd0092be580ef", func := "example.com/quillon/quillon/zzlaws_root_b1.FnZoneOfSeveralIsLowestSharedZone", spec := "fnZoneOfSeveralIsLowestSharedZone", make := .lifted ["publicsums"], apart := false }
def FnZoneOfSeveralIsLowestSharedZoneSaid : Prop := fnZoneOfSeveralIsLowestSharedZoneRow.holds Trym.pinned (OpenSpec.ofChange fnZoneOfSeveralIsLowestSharedZoneSpec)

/-- ITS FALSE NEIGHBOUR: 'it returns false'. Refute it at one input. -/
def fnZoneOfSeveralIsLowestSharedZoneWrong : ChangeSpec := { name := "fnZoneOfSeveralIsLowestSharedZone", fn := fun _ => fun
  | [d1, d2] => { results := [.lit (.bool false)], args := [d1, d2] }
  | _ => none }
def FnZoneOfSeveralIsLowestSharedZoneWrongFalsely : Prop := fnZoneOfSeveralIsLowestSharedZoneRow.holds Trym.pinned (OpenSpec.ofChange fnZoneOfSeveralIsLowestSharedZoneWrong)

/-- 'zzlaws_root_b1.FnZoneOfSeveralNewEntryNeverRaises': WHATEVER THE INPUT: true; the input reads as it did. -/
def fnZoneOfSeveralNewEntryNeverRaisesSpec : ChangeSpec := { name := "fnZoneOfSeveralNewEntryNeverRaises", fn := fun _ => fun
  | [d1, d2, d3, d4] => { results := [.lit (.bool true)], args := [d1, d2, d3, d4] }
  | _ => none }
def fnZoneOfSeveralNewEntryNeverRaisesRow : OpenClaim := { program := "qxb6600077amods", sum := "49da3ec6b0a224f48bc8b7a7534025e47395afa3a35414647c6dd0092be580ef", func := "example.com/quillon/quillon/zzlaws_root_b1.FnZoneOfSeveralNewEntryNeverRaises", spec := "fnZoneOfSeveralNewEntryNeverRaises", make := .lifted ["publicsums"], apart := false }
def FnZoneOfSeveralNewEntryNeverRaisesSaid : Prop := fnZoneOfSeveralNewEntryNeverRaisesRow.holds Trym.pinned (OpenSpec.ofChange fnZoneOfSeveralNewEntryNeverRaisesSpec)

/-- ITS FALSE NEIGHBOUR: 'it returns false'. Refute it at one input. -/
def fnZoneOfSeveralNewEntryNeverRaisesWrong : ChangeSpec := { name := "fnZoneOfSeveralNewEntryNeverRaises", fn := fun _ => fun
  | [d1, d2, d3, d4] => { results := [.lit (.bool false)], args := [d1, d2, d3, d4] }
  | _ => none }
def FnZoneOfSeveralNewEntryNeverRaisesWrongFalsely : Prop := fnZoneOfSeveralNewEntryNeverRaisesRow.holds Trym.pinned (OpenSpec.ofChange fnZoneOfSeveralNewEntryNeverRaisesWrong)

/-- 'zzlaws_root_b1.FnDirectionsUnionOfOwn': WHATEVER THE INPUT: true; the input reads as it did. -/
def fnDirectionsUnionOfOwnSpec : ChangeSpec := { name := "fnDirectionsUnionOfOwn", fn := fun _ => fun
  | [d1, d2, d3] => { results := [.lit (.bool true)], args := [d1, d2, d3] }
  | _ => none }
def fnDirectionsUnionOfOwnRow : OpenClaim := { program := "qxb6600077amods", sum := "49da3ec6b0a224f48bc8b7a7534025e47395afa3a35414647c6dd0092be580ef", func := "example.com/quillon/quillon/zzlaws_root_b1.FnDirectionsUnionOfOwn", spec := "fnDirectionsUnionOfOwn", recurses := true, make := .lifted ["publicsums"], apart := false }
def FnDirectionsUnionOfOwnSaid : Prop := fnDirectionsUnionOfOwnRow.holds Trym.pinned (OpenSpec.ofChange fnDirectionsUnionOfOwnSpec)

/-- ITS FALSE NEIGHBOUR: 'it returns false'. Refute it at one input. -/
def fnDirectionsUnionOfOwnWrong : ChangeSpec := { name := "fnDirectionsUnionOfOwn", fn := fun _ => fun
  | [d1, d2, d3] => { results := [.lit (.bool false)], args := [d1, d2, d3] }
  | _ => none }
def FnDirectionsUnionOfOwnWrongFalsely : Prop := fnDirectionsUnionOfOwnRow.holds Trym.pinned (OpenSpec.ofChange fnDirectionsUnionOfOwnWrong)

/-- 'zzlaws_root_b1.FnDirectionsOutMatchesInFromOtherEnd': WHATEVER THE INPUT: true; the input reads as it did. -/
def fnDirectionsOutMatchesInFromOtherEndSpec : ChangeSpec := { name := "fnDirectionsOutMatchesInFromOtherEnd", fn := fun _ => fun
  | [d1, d2] => { results := [.lit (.bool true)], args := [d1, d2] }
  | _ => none }
def fnDirectionsOutMatchesInFromOtherEndRow : OpenClaim := { program := "qxb6600077amods", sum := "49da3ec6b0a224f48bc8b7a7534025e47395afa3a35414647c6dd0092be580ef", func := "example.com/quillon/quillon/zzlaws_root_b1.FnDirectionsOutMatchesInFromOtherEnd", spec := "fnDirectionsOutMatchesInFromOtherEnd", recurses := true, make := .lifted ["publicsums"], apart := false }
def FnDirectionsOutMatchesInFromOtherEndSaid : Prop := fnDirectionsOutMatchesInFromOtherEndRow.holds Trym.pinned (OpenSpec.ofChange fnDirectionsOutMatchesInFromOtherEndSpec)

/-- ITS FALSE NEIGHBOUR: 'it returns false'. Refute it at one input. -/
def fnDirectionsOutMatchesInFromOtherEndWrong : ChangeSpec := { name := "fnDirectionsOutMatchesInFromOtherEnd", fn := fun _ => fun
  | [d1, d2] => { results := [.lit (.bool false)], args := [d1, d2] }
  | _ => none }
def FnDirectionsOutMatchesInFromOtherEndWrongFalsely : Prop := fnDirectionsOutMatchesInFromOtherEndRow.holds Trym.pinned (OpenSpec.ofChange fnDirectionsOutMatchesInFromOtherEndWrong)

end Rows
end Go.Proofs.Qxb6600077aMods
