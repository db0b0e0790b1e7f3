/-
  No cell of these rows narrows 'for every input' (looked for: loops, veiled, ifaces, maps, wideKeys, modest, calm, conditions, laid).
  DERIVED. THE GIVEN ROWS OF THIS SEAT. 9 by the template 'for every input the law returns true; each argument reads behind the call as it read before'; 0 by the template 'total and deterministic' (their statements: Qxb6003432aTotals.lean).
  GIVEN WITH THE SEED: the statements are not yours to turn. If you find one false, say at which input.
  Laid BY PROGRAM, IN A SANDBOX (cutbox-rows.mjs): the forced cells as the released guide's own fill.sh prints them over the translation 6c7c8b66eb5ec66f… (all of the seat's roots in one cut). By AI agents, Wed Nov 11 2026. No macro, syntax, notation, axiom, sorry.
-/
import Derived.Test.Qxb6003432aChecked
import GoSem.Claim
import GoSem.ClaimJoined
import GoSem.ClaimMapViews
import Derived.JoinedTies
import Derived.KernelRfl
namespace Go.Proofs.Qxb6003432a
/- THE CELL 'sum', in the pinned program and in every row, IS THE sha256 OF THE DUMP (.gsa) THAT Qxb6003432aProg.lean LOADS. Nothing in Lean hashes anything: it is a label: what it is worth is what the hold of that sum in a sandbox is worth. -/
noncomputable def Try.pinned : Pinned := { name := "qxb6003432a", sum := "6c7c8b66eb5ec66faaa2659a86eef8052c2bf5086d9b128c2773ebea48fb33da", checked := Try.checked }
namespace Rows
def none {H : Type} : Left H := { results := [], args := [] }

/-- 'zzlaws_dnsmsg_b1.FnCanonicalIdempotent': WHATEVER THE INPUT: true; the input reads as it did. -/
def fnCanonicalIdempotentSpec : ChangeSpec := { name := "fnCanonicalIdempotent", fn := fun _ => fun
  | [d] => { results := [.lit (.bool true)], args := [d] }
  | _ => none }
def fnCanonicalIdempotentRow : OpenClaim := { program := "qxb6003432a", sum := "6c7c8b66eb5ec66faaa2659a86eef8052c2bf5086d9b128c2773ebea48fb33da", func := "example.com/holdfast/holdfast/zzlaws_dnsmsg_b1.FnCanonicalIdempotent", spec := "fnCanonicalIdempotent", apart := false }
def FnCanonicalIdempotentSaid : Prop := fnCanonicalIdempotentRow.holds Try.pinned (OpenSpec.ofChange fnCanonicalIdempotentSpec)

/-- ITS FALSE NEIGHBOUR: 'it returns false'. Refute it at one input. -/
def fnCanonicalIdempotentWrong : ChangeSpec := { name := "fnCanonicalIdempotent", fn := fun _ => fun
  | [d] => { results := [.lit (.bool false)], args := [d] }
  | _ => none }
def FnCanonicalIdempotentWrongFalsely : Prop := fnCanonicalIdempotentRow.holds Try.pinned (OpenSpec.ofChange fnCanonicalIdempotentWrong)

/-- 'zzlaws_dnsmsg_b1.FnCanonicalAgreesWithIsWithin': WHATEVER THE INPUT: true; the input reads as it did. -/
def fnCanonicalAgreesWithIsWithinSpec : ChangeSpec := { name := "fnCanonicalAgreesWithIsWithin", fn := fun _ => fun
  | [d1, d2] => { results := [.lit (.bool true)], args := [d1, d2] }
  | _ => none }
def fnCanonicalAgreesWithIsWithinRow : OpenClaim := { program := "qxb6003432a", sum := "6c7c8b66eb5ec66faaa2659a86eef8052c2bf5086d9b128c2773ebea48fb33da", func := "example.com/holdfast/holdfast/zzlaws_dnsmsg_b1.FnCanonicalAgreesWithIsWithin", spec := "fnCanonicalAgreesWithIsWithin", apart := false }
def FnCanonicalAgreesWithIsWithinSaid : Prop := fnCanonicalAgreesWithIsWithinRow.holds Try.pinned (OpenSpec.ofChange fnCanonicalAgreesWithIsWithinSpec)

/-- ITS FALSE NEIGHBOUR: 'it returns false'. Refute it at one input. -/
def fnCanonicalAgreesWithIsWithinWrong : ChangeSpec := { name := "fnCanonicalAgreesWithIsWithin", fn := fun _ => fun
  | [d1, d2] => { results := [.lit (.bool false)], args := [d1, d2] }
  | _ => none }
def FnCanonicalAgreesWithIsWithinWrongFalsely : Prop := fnCanonicalAgreesWithIsWithinRow.holds Try.pinned (OpenSpec.ofChange fnCanonicalAgreesWithIsWithinWrong)

/-- 'zzlaws_dnsmsg_b1.FnIsWithinCaseBlind': WHATEVER THE INPUT: true; the input reads as it did. -/
def fnIsWithinCaseBlindSpec : ChangeSpec := { name := "fnIsWithinCaseBlind", fn := fun _ => fun
  | [d1, d2] => { results := [.lit (.bool true)], args := [d1, d2] }
  | _ => none }
def fnIsWithinCaseBlindRow : OpenClaim := { program := "qxb6003432a", sum := "6c7c8b66eb5ec66faaa2659a86eef8052c2bf5086d9b128c2773ebea48fb33da", func := "example.com/holdfast/holdfast/zzlaws_dnsmsg_b1.FnIsWithinCaseBlind", spec := "fnIsWithinCaseBlind", apart := false }
def FnIsWithinCaseBlindSaid : Prop := fnIsWithinCaseBlindRow.holds Try.pinned (OpenSpec.ofChange fnIsWithinCaseBlindSpec)

/-- ITS FALSE NEIGHBOUR: 'it returns false'. Refute it at one input. -/
def fnIsWithinCaseBlindWrong : ChangeSpec := { name := "fnIsWithinCaseBlind", fn := fun _ => fun
  | [d1, d2] => { results := [.lit (.bool false)], args := [d1, d2] }
  | _ => none }
def FnIsWithinCaseBlindWrongFalsely : Prop := fnIsWithinCaseBlindRow.holds Try.pinned (OpenSpec.ofChange fnIsWithinCaseBlindWrong)

/-- 'zzlaws_dnsmsg_b1.FnIsWithinMatchesLabelModel': WHATEVER THE INPUT: true; the input reads as it did. -/
def fnIsWithinMatchesLabelModelSpec : ChangeSpec := { name := "fnIsWithinMatchesLabelModel", fn := fun _ => fun
  | [d1, d2] => { results := [.lit (.bool true)], args := [d1, d2] }
  | _ => none }
def fnIsWithinMatchesLabelModelRow : OpenClaim := { program := "qxb6003432a", sum := "6c7c8b66eb5ec66faaa2659a86eef8052c2bf5086d9b128c2773ebea48fb33da", func := "example.com/holdfast/holdfast/zzlaws_dnsmsg_b1.FnIsWithinMatchesLabelModel", spec := "fnIsWithinMatchesLabelModel", apart := false }
def FnIsWithinMatchesLabelModelSaid : Prop := fnIsWithinMatchesLabelModelRow.holds Try.pinned (OpenSpec.ofChange fnIsWithinMatchesLabelModelSpec)

/-- ITS FALSE NEIGHBOUR: 'it returns false'. Refute it at one input. -/
def fnIsWithinMatchesLabelModelWrong : ChangeSpec := { name := "fnIsWithinMatchesLabelModel", fn := fun _ => fun
  | [d1, d2] => { results := [.lit (.bool false)], args := [d1, d2] }
  | _ => none }
def FnIsWithinMatchesLabelModelWrongFalsely : Prop := fnIsWithinMatchesLabelModelRow.holds Try.pinned (OpenSpec.ofChange fnIsWithinMatchesLabelModelWrong)

/-- 'zzlaws_dnsmsg_b1.FnIsWithinTransitive': WHATEVER THE INPUT: true; the input reads as it did. -/
def fnIsWithinTransitiveSpec : ChangeSpec := { name := "fnIsWithinTransitive", fn := fun _ => fun
  | [d1, d2, d3] => { results := [.lit (.bool true)], args := [d1, d2, d3] }
  | _ => none }
def fnIsWithinTransitiveRow : OpenClaim := { program := "qxb6003432a", sum := "6c7c8b66eb5ec66faaa2659a86eef8052c2bf5086d9b128c2773ebea48fb33da", func := "example.com/holdfast/holdfast/zzlaws_dnsmsg_b1.FnIsWithinTransitive", spec := "fnIsWithinTransitive", apart := false }
def FnIsWithinTransitiveSaid : Prop := fnIsWithinTransitiveRow.holds Try.pinned (OpenSpec.ofChange fnIsWithinTransitiveSpec)

/-- ITS FALSE NEIGHBOUR: 'it returns false'. Refute it at one input. -/
def fnIsWithinTransitiveWrong : ChangeSpec := { name := "fnIsWithinTransitive", fn := fun _ => fun
  | [d1, d2, d3] => { results := [.lit (.bool false)], args := [d1, d2, d3] }
  | _ => none }
def FnIsWithinTransitiveWrongFalsely : Prop := fnIsWithinTransitiveRow.holds Try.pinned (OpenSpec.ofChange fnIsWithinTransitiveWrong)

/-- 'zzlaws_dnsmsg_b1.FnIsWithinSelfAndRoot': WHATEVER THE INPUT: true; the input reads as it did. -/
def fnIsWithinSelfAndRootSpec : ChangeSpec := { name := "fnIsWithinSelfAndRoot", fn := fun _ => fun
  | [d] => { results := [.lit (.bool true)], args := [d] }
  | _ => none }
def fnIsWithinSelfAndRootRow : OpenClaim := { program := "qxb6003432a", sum := "6c7c8b66eb5ec66faaa2659a86eef8052c2bf5086d9b128c2773ebea48fb33da", func := "example.com/holdfast/holdfast/zzlaws_dnsmsg_b1.FnIsWithinSelfAndRoot", spec := "fnIsWithinSelfAndRoot", apart := false }
def FnIsWithinSelfAndRootSaid : Prop := fnIsWithinSelfAndRootRow.holds Try.pinned (OpenSpec.ofChange fnIsWithinSelfAndRootSpec)

/-- ITS FALSE NEIGHBOUR: 'it returns false'. Refute it at one input. -/
def fnIsWithinSelfAndRootWrong : ChangeSpec := { name := "fnIsWithinSelfAndRoot", fn := fun _ => fun
  | [d] => { results := [.lit (.bool false)], args := [d] }
  | _ => none }
def FnIsWithinSelfAndRootWrongFalsely : Prop := fnIsWithinSelfAndRootRow.holds Try.pinned (OpenSpec.ofChange fnIsWithinSelfAndRootWrong)

/-- 'zzlaws_dnsmsg_b1.FnFindReturnsEveryStored': WHATEVER THE INPUT: true; the input reads as it did. -/
def fnFindReturnsEveryStoredSpec : ChangeSpec := { name := "fnFindReturnsEveryStored", fn := fun _ => fun
  | [d1, d2, d3, d4] => { results := [.lit (.bool true)], args := [d1, d2, d3, d4] }
  | _ => none }
def fnFindReturnsEveryStoredRow : OpenClaim := { program := "qxb6003432a", sum := "6c7c8b66eb5ec66faaa2659a86eef8052c2bf5086d9b128c2773ebea48fb33da", func := "example.com/holdfast/holdfast/zzlaws_dnsmsg_b1.FnFindReturnsEveryStored", spec := "fnFindReturnsEveryStored", apart := false }
def FnFindReturnsEveryStoredSaid : Prop := fnFindReturnsEveryStoredRow.holds Try.pinned (OpenSpec.ofChange fnFindReturnsEveryStoredSpec)

/-- ITS FALSE NEIGHBOUR: 'it returns false'. Refute it at one input. -/
def fnFindReturnsEveryStoredWrong : ChangeSpec := { name := "fnFindReturnsEveryStored", fn := fun _ => fun
  | [d1, d2, d3, d4] => { results := [.lit (.bool false)], args := [d1, d2, d3, d4] }
  | _ => none }
def FnFindReturnsEveryStoredWrongFalsely : Prop := fnFindReturnsEveryStoredRow.holds Try.pinned (OpenSpec.ofChange fnFindReturnsEveryStoredWrong)

/-- 'zzlaws_dnsmsg_b1.FnFindMatchesAssocList': WHATEVER THE INPUT: true; the input reads as it did. -/
def fnFindMatchesAssocListSpec : ChangeSpec := { name := "fnFindMatchesAssocList", fn := fun _ => fun
  | [d1, d2, d3, d4, d5] => { results := [.lit (.bool true)], args := [d1, d2, d3, d4, d5] }
  | _ => none }
def fnFindMatchesAssocListRow : OpenClaim := { program := "qxb6003432a", sum := "6c7c8b66eb5ec66faaa2659a86eef8052c2bf5086d9b128c2773ebea48fb33da", func := "example.com/holdfast/holdfast/zzlaws_dnsmsg_b1.FnFindMatchesAssocList", spec := "fnFindMatchesAssocList", apart := false }
def FnFindMatchesAssocListSaid : Prop := fnFindMatchesAssocListRow.holds Try.pinned (OpenSpec.ofChange fnFindMatchesAssocListSpec)

/-- ITS FALSE NEIGHBOUR: 'it returns false'. Refute it at one input. -/
def fnFindMatchesAssocListWrong : ChangeSpec := { name := "fnFindMatchesAssocList", fn := fun _ => fun
  | [d1, d2, d3, d4, d5] => { results := [.lit (.bool false)], args := [d1, d2, d3, d4, d5] }
  | _ => none }
def FnFindMatchesAssocListWrongFalsely : Prop := fnFindMatchesAssocListRow.holds Try.pinned (OpenSpec.ofChange fnFindMatchesAssocListWrong)

/-- 'zzlaws_dnsmsg_b1.FnFindBlindToTierSplit': WHATEVER THE INPUT: true; the input reads as it did. -/
def fnFindBlindToTierSplitSpec : ChangeSpec := { name := "fnFindBlindToTierSplit", fn := fun _ => fun
  | [d1, d2, d3, d4] => { results := [.lit (.bool true)], args := [d1, d2, d3, d4] }
  | _ => none }
def fnFindBlindToTierSplitRow : OpenClaim := { program := "qxb6003432a", sum := "6c7c8b66eb5ec66faaa2659a86eef8052c2bf5086d9b128c2773ebea48fb33da", func := "example.com/holdfast/holdfast/zzlaws_dnsmsg_b1.FnFindBlindToTierSplit", spec := "fnFindBlindToTierSplit", apart := false }
def FnFindBlindToTierSplitSaid : Prop := fnFindBlindToTierSplitRow.holds Try.pinned (OpenSpec.ofChange fnFindBlindToTierSplitSpec)

/-- ITS FALSE NEIGHBOUR: 'it returns false'. Refute it at one input. -/
def fnFindBlindToTierSplitWrong : ChangeSpec := { name := "fnFindBlindToTierSplit", fn := fun _ => fun
  | [d1, d2, d3, d4] => { results := [.lit (.bool false)], args := [d1, d2, d3, d4] }
  | _ => none }
def FnFindBlindToTierSplitWrongFalsely : Prop := fnFindBlindToTierSplitRow.holds Try.pinned (OpenSpec.ofChange fnFindBlindToTierSplitWrong)

end Rows
end Go.Proofs.Qxb6003432a
