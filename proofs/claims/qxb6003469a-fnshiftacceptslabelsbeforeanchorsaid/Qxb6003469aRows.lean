/-
  No cell of these rows narrows 'for every input' (looked for: loops, veiled, ifaces, maps, wideKeys, modest, calm, conditions, laid).
  DERIVED. THE GIVEN ROWS OF THIS SEAT. 8 by the template 'for every input the law returns true; each argument reads behind the call as it read before'; 0 by the template 'total and deterministic' (their statements: Qxb6003469aTotals.lean).
  GIVEN WITH THE SEED: the statements are not yours to turn. If you find one false, say at which input.
  Laid BY PROGRAM, IN A SANDBOX (cutbox-rows.mjs): the forced cells as the released guide's own fill.sh prints them over the translation db72ca1995b1588a… (all of the seat's roots in one cut). By AI agents, Wed Nov 11 2026. No macro, syntax, notation, axiom, sorry.
-/
import Derived.Test.Qxb6003469aChecked
import GoSem.Claim
import GoSem.ClaimJoined
import GoSem.ClaimMapViews
import Derived.JoinedTies
import Derived.KernelRfl
namespace Go.Proofs.Qxb6003469a
/- THE CELL 'sum', in the pinned program and in every row, IS THE sha256 OF THE DUMP (.gsa) THAT Qxb6003469aProg.lean LOADS. Nothing in Lean hashes anything: it is a label: what it is worth is what the hold of that sum in a sandbox is worth. -/
noncomputable def Try.pinned : Pinned := { name := "qxb6003469a", sum := "db72ca1995b1588a31ca73a459adc04c1aa103c777c4cc1872cfcc908ed61e19", checked := Try.checked }
namespace Rows
def none {H : Type} : Left H := { results := [], args := [] }

/-- 'zzlaws_pkg_dns_b2.FnUnitSecondsCaseBlind': WHATEVER THE INPUT: true; the input reads as it did. -/
def fnUnitSecondsCaseBlindSpec : ChangeSpec := { name := "fnUnitSecondsCaseBlind", fn := fun _ => fun
  | [d] => { results := [.lit (.bool true)], args := [d] }
  | _ => none }
def fnUnitSecondsCaseBlindRow : OpenClaim := { program := "qxb6003469a", sum := "db72ca1995b1588a31ca73a459adc04c1aa103c777c4cc1872cfcc908ed61e19", func := "example.com/namewell/namewell/zzlaws_pkg_dns_b2.FnUnitSecondsCaseBlind", spec := "fnUnitSecondsCaseBlind", apart := false }
def FnUnitSecondsCaseBlindSaid : Prop := fnUnitSecondsCaseBlindRow.holds Try.pinned (OpenSpec.ofChange fnUnitSecondsCaseBlindSpec)

/-- ITS FALSE NEIGHBOUR: 'it returns false'. Refute it at one input. -/
def fnUnitSecondsCaseBlindWrong : ChangeSpec := { name := "fnUnitSecondsCaseBlind", fn := fun _ => fun
  | [d] => { results := [.lit (.bool false)], args := [d] }
  | _ => none }
def FnUnitSecondsCaseBlindWrongFalsely : Prop := fnUnitSecondsCaseBlindRow.holds Try.pinned (OpenSpec.ofChange fnUnitSecondsCaseBlindWrong)

/-- 'zzlaws_pkg_dns_b2.FnUnitSecondsKnownUnitsOnly': WHATEVER THE INPUT: true; the input reads as it did. -/
def fnUnitSecondsKnownUnitsOnlySpec : ChangeSpec := { name := "fnUnitSecondsKnownUnitsOnly", fn := fun _ => fun
  | [d] => { results := [.lit (.bool true)], args := [d] }
  | _ => none }
def fnUnitSecondsKnownUnitsOnlyRow : OpenClaim := { program := "qxb6003469a", sum := "db72ca1995b1588a31ca73a459adc04c1aa103c777c4cc1872cfcc908ed61e19", func := "example.com/namewell/namewell/zzlaws_pkg_dns_b2.FnUnitSecondsKnownUnitsOnly", spec := "fnUnitSecondsKnownUnitsOnly", apart := false }
def FnUnitSecondsKnownUnitsOnlySaid : Prop := fnUnitSecondsKnownUnitsOnlyRow.holds Try.pinned (OpenSpec.ofChange fnUnitSecondsKnownUnitsOnlySpec)

/-- ITS FALSE NEIGHBOUR: 'it returns false'. Refute it at one input. -/
def fnUnitSecondsKnownUnitsOnlyWrong : ChangeSpec := { name := "fnUnitSecondsKnownUnitsOnly", fn := fun _ => fun
  | [d] => { results := [.lit (.bool false)], args := [d] }
  | _ => none }
def FnUnitSecondsKnownUnitsOnlyWrongFalsely : Prop := fnUnitSecondsKnownUnitsOnlyRow.holds Try.pinned (OpenSpec.ofChange fnUnitSecondsKnownUnitsOnlyWrong)

/-- 'zzlaws_pkg_dns_b2.FnUnitSecondsOrdered': WHATEVER THE INPUT: true; the input reads as it did. -/
def fnUnitSecondsOrderedSpec : ChangeSpec := { name := "fnUnitSecondsOrdered", fn := fun _ => fun
  | [d1, d2] => { results := [.lit (.bool true)], args := [d1, d2] }
  | _ => none }
def fnUnitSecondsOrderedRow : OpenClaim := { program := "qxb6003469a", sum := "db72ca1995b1588a31ca73a459adc04c1aa103c777c4cc1872cfcc908ed61e19", func := "example.com/namewell/namewell/zzlaws_pkg_dns_b2.FnUnitSecondsOrdered", spec := "fnUnitSecondsOrdered", apart := false }
def FnUnitSecondsOrderedSaid : Prop := fnUnitSecondsOrderedRow.holds Try.pinned (OpenSpec.ofChange fnUnitSecondsOrderedSpec)

/-- ITS FALSE NEIGHBOUR: 'it returns false'. Refute it at one input. -/
def fnUnitSecondsOrderedWrong : ChangeSpec := { name := "fnUnitSecondsOrdered", fn := fun _ => fun
  | [d1, d2] => { results := [.lit (.bool false)], args := [d1, d2] }
  | _ => none }
def FnUnitSecondsOrderedWrongFalsely : Prop := fnUnitSecondsOrderedRow.holds Try.pinned (OpenSpec.ofChange fnUnitSecondsOrderedWrong)

/-- 'zzlaws_pkg_dns_b2.FnShiftAcceptsLabelsBeforeAnchor': WHATEVER THE INPUT: true; the input reads as it did. -/
def fnShiftAcceptsLabelsBeforeAnchorSpec : ChangeSpec := { name := "fnShiftAcceptsLabelsBeforeAnchor", fn := fun _ => fun
  | [d1, d2, d3, d4] => { results := [.lit (.bool true)], args := [d1, d2, d3, d4] }
  | _ => none }
def fnShiftAcceptsLabelsBeforeAnchorRow : OpenClaim := { program := "qxb6003469a", sum := "db72ca1995b1588a31ca73a459adc04c1aa103c777c4cc1872cfcc908ed61e19", func := "example.com/namewell/namewell/zzlaws_pkg_dns_b2.FnShiftAcceptsLabelsBeforeAnchor", spec := "fnShiftAcceptsLabelsBeforeAnchor", apart := false }
def FnShiftAcceptsLabelsBeforeAnchorSaid : Prop := fnShiftAcceptsLabelsBeforeAnchorRow.holds Try.pinned (OpenSpec.ofChange fnShiftAcceptsLabelsBeforeAnchorSpec)

/-- ITS FALSE NEIGHBOUR: 'it returns false'. Refute it at one input. -/
def fnShiftAcceptsLabelsBeforeAnchorWrong : ChangeSpec := { name := "fnShiftAcceptsLabelsBeforeAnchor", fn := fun _ => fun
  | [d1, d2, d3, d4] => { results := [.lit (.bool false)], args := [d1, d2, d3, d4] }
  | _ => none }
def FnShiftAcceptsLabelsBeforeAnchorWrongFalsely : Prop := fnShiftAcceptsLabelsBeforeAnchorRow.holds Try.pinned (OpenSpec.ofChange fnShiftAcceptsLabelsBeforeAnchorWrong)

/-- 'zzlaws_pkg_dns_b2.FnShiftRefusesCountsOrSharedLabel': WHATEVER THE INPUT: true; the input reads as it did. -/
def fnShiftRefusesCountsOrSharedLabelSpec : ChangeSpec := { name := "fnShiftRefusesCountsOrSharedLabel", fn := fun _ => fun
  | [d1, d2, d3, d4, d5] => { results := [.lit (.bool true)], args := [d1, d2, d3, d4, d5] }
  | _ => none }
def fnShiftRefusesCountsOrSharedLabelRow : OpenClaim := { program := "qxb6003469a", sum := "db72ca1995b1588a31ca73a459adc04c1aa103c777c4cc1872cfcc908ed61e19", func := "example.com/namewell/namewell/zzlaws_pkg_dns_b2.FnShiftRefusesCountsOrSharedLabel", spec := "fnShiftRefusesCountsOrSharedLabel", apart := false }
def FnShiftRefusesCountsOrSharedLabelSaid : Prop := fnShiftRefusesCountsOrSharedLabelRow.holds Try.pinned (OpenSpec.ofChange fnShiftRefusesCountsOrSharedLabelSpec)

/-- ITS FALSE NEIGHBOUR: 'it returns false'. Refute it at one input. -/
def fnShiftRefusesCountsOrSharedLabelWrong : ChangeSpec := { name := "fnShiftRefusesCountsOrSharedLabel", fn := fun _ => fun
  | [d1, d2, d3, d4, d5] => { results := [.lit (.bool false)], args := [d1, d2, d3, d4, d5] }
  | _ => none }
def FnShiftRefusesCountsOrSharedLabelWrongFalsely : Prop := fnShiftRefusesCountsOrSharedLabelRow.holds Try.pinned (OpenSpec.ofChange fnShiftRefusesCountsOrSharedLabelWrong)

/-- 'zzlaws_pkg_dns_b2.FnTypeBitmapEncodingAccepted': WHATEVER THE INPUT: true; the input reads as it did. -/
def fnTypeBitmapEncodingAcceptedSpec : ChangeSpec := { name := "fnTypeBitmapEncodingAccepted", fn := fun _ => fun
  | [d] => { results := [.lit (.bool true)], args := [d] }
  | _ => none }
def fnTypeBitmapEncodingAcceptedRow : OpenClaim := { program := "qxb6003469a", sum := "db72ca1995b1588a31ca73a459adc04c1aa103c777c4cc1872cfcc908ed61e19", func := "example.com/namewell/namewell/zzlaws_pkg_dns_b2.FnTypeBitmapEncodingAccepted", spec := "fnTypeBitmapEncodingAccepted", apart := false }
def FnTypeBitmapEncodingAcceptedSaid : Prop := fnTypeBitmapEncodingAcceptedRow.holds Try.pinned (OpenSpec.ofChange fnTypeBitmapEncodingAcceptedSpec)

/-- ITS FALSE NEIGHBOUR: 'it returns false'. Refute it at one input. -/
def fnTypeBitmapEncodingAcceptedWrong : ChangeSpec := { name := "fnTypeBitmapEncodingAccepted", fn := fun _ => fun
  | [d] => { results := [.lit (.bool false)], args := [d] }
  | _ => none }
def FnTypeBitmapEncodingAcceptedWrongFalsely : Prop := fnTypeBitmapEncodingAcceptedRow.holds Try.pinned (OpenSpec.ofChange fnTypeBitmapEncodingAcceptedWrong)

/-- 'zzlaws_pkg_dns_b2.FnTypeBitmapBlocksReversedRefused': WHATEVER THE INPUT: true; the input reads as it did. -/
def fnTypeBitmapBlocksReversedRefusedSpec : ChangeSpec := { name := "fnTypeBitmapBlocksReversedRefused", fn := fun _ => fun
  | [d] => { results := [.lit (.bool true)], args := [d] }
  | _ => none }
def fnTypeBitmapBlocksReversedRefusedRow : OpenClaim := { program := "qxb6003469a", sum := "db72ca1995b1588a31ca73a459adc04c1aa103c777c4cc1872cfcc908ed61e19", func := "example.com/namewell/namewell/zzlaws_pkg_dns_b2.FnTypeBitmapBlocksReversedRefused", spec := "fnTypeBitmapBlocksReversedRefused", apart := false }
def FnTypeBitmapBlocksReversedRefusedSaid : Prop := fnTypeBitmapBlocksReversedRefusedRow.holds Try.pinned (OpenSpec.ofChange fnTypeBitmapBlocksReversedRefusedSpec)

/-- ITS FALSE NEIGHBOUR: 'it returns false'. Refute it at one input. -/
def fnTypeBitmapBlocksReversedRefusedWrong : ChangeSpec := { name := "fnTypeBitmapBlocksReversedRefused", fn := fun _ => fun
  | [d] => { results := [.lit (.bool false)], args := [d] }
  | _ => none }
def FnTypeBitmapBlocksReversedRefusedWrongFalsely : Prop := fnTypeBitmapBlocksReversedRefusedRow.holds Try.pinned (OpenSpec.ofChange fnTypeBitmapBlocksReversedRefusedWrong)

/-- 'zzlaws_pkg_dns_b2.FnTypeBitmapCutOrExtendedRefused': WHATEVER THE INPUT: true; the input reads as it did. -/
def fnTypeBitmapCutOrExtendedRefusedSpec : ChangeSpec := { name := "fnTypeBitmapCutOrExtendedRefused", fn := fun _ => fun
  | [d1, d2] => { results := [.lit (.bool true)], args := [d1, d2] }
  | _ => none }
def fnTypeBitmapCutOrExtendedRefusedRow : OpenClaim := { program := "qxb6003469a", sum := "db72ca1995b1588a31ca73a459adc04c1aa103c777c4cc1872cfcc908ed61e19", func := "example.com/namewell/namewell/zzlaws_pkg_dns_b2.FnTypeBitmapCutOrExtendedRefused", spec := "fnTypeBitmapCutOrExtendedRefused", apart := false }
def FnTypeBitmapCutOrExtendedRefusedSaid : Prop := fnTypeBitmapCutOrExtendedRefusedRow.holds Try.pinned (OpenSpec.ofChange fnTypeBitmapCutOrExtendedRefusedSpec)

/-- ITS FALSE NEIGHBOUR: 'it returns false'. Refute it at one input. -/
def fnTypeBitmapCutOrExtendedRefusedWrong : ChangeSpec := { name := "fnTypeBitmapCutOrExtendedRefused", fn := fun _ => fun
  | [d1, d2] => { results := [.lit (.bool false)], args := [d1, d2] }
  | _ => none }
def FnTypeBitmapCutOrExtendedRefusedWrongFalsely : Prop := fnTypeBitmapCutOrExtendedRefusedRow.holds Try.pinned (OpenSpec.ofChange fnTypeBitmapCutOrExtendedRefusedWrong)

end Rows
end Go.Proofs.Qxb6003469a
