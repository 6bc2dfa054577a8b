/-
  No cell of these rows narrows 'for every input' (looked for: loops, veiled, ifaces, maps, wideKeys, modest, calm, conditions, laid).
  DERIVED. THE GIVEN ROWS OF THIS SEAT. 7 by the template 'for every input the law returns true; each argument reads behind the call as it read before'; 0 by the template 'total and deterministic' (their statements: Qxb6614255aModsTotals.lean).
  GIVEN WITH THE SEED: the statements are not yours to turn. If you find one false, say at which input.
  Laid BY PROGRAM, IN A SANDBOX (cutbox-rows.mjs): the forced cells as the released guide's own fill.sh prints them over the translation 42813a0f10aa8658… (all of the seat's roots in one cut). By AI agents, Wed Nov 11 2026. No macro, syntax, notation, axiom, sorry.
-/
import Derived.Test.Qxb6614255aModsChecked
import GoSem.Claim
import GoSem.ClaimJoined
import GoSem.ClaimMapViews
import Derived.JoinedTies
import Derived.KernelRfl
namespace Go.Proofs.Qxb6614255aMods
/- THE CELL 'sum', in the pinned program and in every row, IS THE sha256 OF THE DUMP (.gsa) THAT Qxb6614255aModsProg.lean LOADS. Nothing in Lean hashes anything: it is a label: what it is worth is what the hold of that sum in a sandbox is worth. -/
noncomputable def Trym.pinned : Pinned := { name := "qxb6614255amods", sum := "42813a0f10aa8658f24fceec406ccc748088653bf6791b520159cf07a323e73b", checked := Trym.checked }
namespace Rows
def none {H : Type} : Left H := { results := [], args := [] }

/-- 'zzlaws_aez_b1.FnTweakNonceLeadsAndListIsFresh': WHATEVER THE INPUT: true; the input reads as it did. -/
def fnTweakNonceLeadsAndListIsFreshSpec : ChangeSpec := { name := "fnTweakNonceLeadsAndListIsFresh", fn := fun _ => fun
  | [d1, d2] => { results := [.lit (.bool true)], args := [d1, d2] }
  | _ => none }
def fnTweakNonceLeadsAndListIsFreshRow : OpenClaim := { program := "qxb6614255amods", sum := "42813a0f10aa8658f24fceec406ccc748088653bf6791b520159cf07a323e73b", func := "example.com/anchorhold/anchorhold/zzlaws_aez_b1.FnTweakNonceLeadsAndListIsFresh", spec := "fnTweakNonceLeadsAndListIsFresh", make := .lifted ["publicsums"], apart := false }
def FnTweakNonceLeadsAndListIsFreshSaid : Prop := fnTweakNonceLeadsAndListIsFreshRow.holds Trym.pinned (OpenSpec.ofChange fnTweakNonceLeadsAndListIsFreshSpec)

/-- ITS FALSE NEIGHBOUR: 'it returns false'. Refute it at one input. -/
def fnTweakNonceLeadsAndListIsFreshWrong : ChangeSpec := { name := "fnTweakNonceLeadsAndListIsFresh", fn := fun _ => fun
  | [d1, d2] => { results := [.lit (.bool false)], args := [d1, d2] }
  | _ => none }
def FnTweakNonceLeadsAndListIsFreshWrongFalsely : Prop := fnTweakNonceLeadsAndListIsFreshRow.holds Trym.pinned (OpenSpec.ofChange fnTweakNonceLeadsAndListIsFreshWrong)

/-- 'zzlaws_aez_b1.FnWalkMasksFollowFormula': WHATEVER THE INPUT: true; the input reads as it did. -/
def fnWalkMasksFollowFormulaSpec : ChangeSpec := { name := "fnWalkMasksFollowFormula", fn := fun _ => fun
  | [d1, d2, d3, d4, d5] => { results := [.lit (.bool true)], args := [d1, d2, d3, d4, d5] }
  | _ => none }
def fnWalkMasksFollowFormulaRow : OpenClaim := { program := "qxb6614255amods", sum := "42813a0f10aa8658f24fceec406ccc748088653bf6791b520159cf07a323e73b", func := "example.com/anchorhold/anchorhold/zzlaws_aez_b1.FnWalkMasksFollowFormula", spec := "fnWalkMasksFollowFormula", make := .lifted ["publicsums"], apart := false }
def FnWalkMasksFollowFormulaSaid : Prop := fnWalkMasksFollowFormulaRow.holds Trym.pinned (OpenSpec.ofChange fnWalkMasksFollowFormulaSpec)

/-- ITS FALSE NEIGHBOUR: 'it returns false'. Refute it at one input. -/
def fnWalkMasksFollowFormulaWrong : ChangeSpec := { name := "fnWalkMasksFollowFormula", fn := fun _ => fun
  | [d1, d2, d3, d4, d5] => { results := [.lit (.bool false)], args := [d1, d2, d3, d4, d5] }
  | _ => none }
def FnWalkMasksFollowFormulaWrongFalsely : Prop := fnWalkMasksFollowFormulaRow.holds Trym.pinned (OpenSpec.ofChange fnWalkMasksFollowFormulaWrong)

/-- 'zzlaws_aez_b1.FnWalkAgreesWithMaskAndShiftsByJ': WHATEVER THE INPUT: true; the input reads as it did. -/
def fnWalkAgreesWithMaskAndShiftsByJSpec : ChangeSpec := { name := "fnWalkAgreesWithMaskAndShiftsByJ", fn := fun _ => fun
  | [d1, d2, d3, d4, d5] => { results := [.lit (.bool true)], args := [d1, d2, d3, d4, d5] }
  | _ => none }
def fnWalkAgreesWithMaskAndShiftsByJRow : OpenClaim := { program := "qxb6614255amods", sum := "42813a0f10aa8658f24fceec406ccc748088653bf6791b520159cf07a323e73b", func := "example.com/anchorhold/anchorhold/zzlaws_aez_b1.FnWalkAgreesWithMaskAndShiftsByJ", spec := "fnWalkAgreesWithMaskAndShiftsByJ", make := .lifted ["publicsums"], apart := false }
def FnWalkAgreesWithMaskAndShiftsByJSaid : Prop := fnWalkAgreesWithMaskAndShiftsByJRow.holds Trym.pinned (OpenSpec.ofChange fnWalkAgreesWithMaskAndShiftsByJSpec)

/-- ITS FALSE NEIGHBOUR: 'it returns false'. Refute it at one input. -/
def fnWalkAgreesWithMaskAndShiftsByJWrong : ChangeSpec := { name := "fnWalkAgreesWithMaskAndShiftsByJ", fn := fun _ => fun
  | [d1, d2, d3, d4, d5] => { results := [.lit (.bool false)], args := [d1, d2, d3, d4, d5] }
  | _ => none }
def FnWalkAgreesWithMaskAndShiftsByJWrongFalsely : Prop := fnWalkAgreesWithMaskAndShiftsByJRow.holds Trym.pinned (OpenSpec.ofChange fnWalkAgreesWithMaskAndShiftsByJWrong)

/-- 'zzlaws_aez_b1.FnXtimesLanesAreXtimeAndHalveBack': WHATEVER THE INPUT: true; the input reads as it did. -/
def fnXtimesLanesAreXtimeAndHalveBackSpec : ChangeSpec := { name := "fnXtimesLanesAreXtimeAndHalveBack", fn := fun _ => fun
  | [d] => { results := [.lit (.bool true)], args := [d] }
  | _ => none }
def fnXtimesLanesAreXtimeAndHalveBackRow : OpenClaim := { program := "qxb6614255amods", sum := "42813a0f10aa8658f24fceec406ccc748088653bf6791b520159cf07a323e73b", func := "example.com/anchorhold/anchorhold/zzlaws_aez_b1.FnXtimesLanesAreXtimeAndHalveBack", spec := "fnXtimesLanesAreXtimeAndHalveBack", make := .lifted ["publicsums"], apart := false }
def FnXtimesLanesAreXtimeAndHalveBackSaid : Prop := fnXtimesLanesAreXtimeAndHalveBackRow.holds Trym.pinned (OpenSpec.ofChange fnXtimesLanesAreXtimeAndHalveBackSpec)

/-- ITS FALSE NEIGHBOUR: 'it returns false'. Refute it at one input. -/
def fnXtimesLanesAreXtimeAndHalveBackWrong : ChangeSpec := { name := "fnXtimesLanesAreXtimeAndHalveBack", fn := fun _ => fun
  | [d] => { results := [.lit (.bool false)], args := [d] }
  | _ => none }
def FnXtimesLanesAreXtimeAndHalveBackWrongFalsely : Prop := fnXtimesLanesAreXtimeAndHalveBackRow.holds Trym.pinned (OpenSpec.ofChange fnXtimesLanesAreXtimeAndHalveBackWrong)

/-- 'zzlaws_aez_b1.FnXtimesLinearWithPeriod51': WHATEVER THE INPUT: true; the input reads as it did. -/
def fnXtimesLinearWithPeriod51Spec : ChangeSpec := { name := "fnXtimesLinearWithPeriod51", fn := fun _ => fun
  | [d1, d2] => { results := [.lit (.bool true)], args := [d1, d2] }
  | _ => none }
def fnXtimesLinearWithPeriod51Row : OpenClaim := { program := "qxb6614255amods", sum := "42813a0f10aa8658f24fceec406ccc748088653bf6791b520159cf07a323e73b", func := "example.com/anchorhold/anchorhold/zzlaws_aez_b1.FnXtimesLinearWithPeriod51", spec := "fnXtimesLinearWithPeriod51", make := .lifted ["publicsums"], apart := false }
def FnXtimesLinearWithPeriod51Said : Prop := fnXtimesLinearWithPeriod51Row.holds Trym.pinned (OpenSpec.ofChange fnXtimesLinearWithPeriod51Spec)

/-- ITS FALSE NEIGHBOUR: 'it returns false'. Refute it at one input. -/
def fnXtimesLinearWithPeriod51Wrong : ChangeSpec := { name := "fnXtimesLinearWithPeriod51", fn := fun _ => fun
  | [d1, d2] => { results := [.lit (.bool false)], args := [d1, d2] }
  | _ => none }
def FnXtimesLinearWithPeriod51WrongFalsely : Prop := fnXtimesLinearWithPeriod51Row.holds Trym.pinned (OpenSpec.ofChange fnXtimesLinearWithPeriod51Wrong)

/-- 'zzlaws_aez_b1.FnEncipherMatchesAEZSpecAndInverts': WHATEVER THE INPUT: true; the input reads as it did. -/
def fnEncipherMatchesAEZSpecAndInvertsSpec : ChangeSpec := { name := "fnEncipherMatchesAEZSpecAndInverts", fn := fun _ => fun
  | [d1, d2, d3, d4, d5] => { results := [.lit (.bool true)], args := [d1, d2, d3, d4, d5] }
  | _ => none }
def fnEncipherMatchesAEZSpecAndInvertsRow : OpenClaim := { program := "qxb6614255amods", sum := "42813a0f10aa8658f24fceec406ccc748088653bf6791b520159cf07a323e73b", func := "example.com/anchorhold/anchorhold/zzlaws_aez_b1.FnEncipherMatchesAEZSpecAndInverts", spec := "fnEncipherMatchesAEZSpecAndInverts", named := ["encoding/binary.LittleEndian"], make := .lifted ["publicsums"], apart := false }
def FnEncipherMatchesAEZSpecAndInvertsSaid : Prop := fnEncipherMatchesAEZSpecAndInvertsRow.holds Trym.pinned (OpenSpec.ofChange fnEncipherMatchesAEZSpecAndInvertsSpec)

/-- ITS FALSE NEIGHBOUR: 'it returns false'. Refute it at one input. -/
def fnEncipherMatchesAEZSpecAndInvertsWrong : ChangeSpec := { name := "fnEncipherMatchesAEZSpecAndInverts", fn := fun _ => fun
  | [d1, d2, d3, d4, d5] => { results := [.lit (.bool false)], args := [d1, d2, d3, d4, d5] }
  | _ => none }
def FnEncipherMatchesAEZSpecAndInvertsWrongFalsely : Prop := fnEncipherMatchesAEZSpecAndInvertsRow.holds Trym.pinned (OpenSpec.ofChange fnEncipherMatchesAEZSpecAndInvertsWrong)

/-- 'zzlaws_aez_b1.FnEncipherTweakShift': WHATEVER THE INPUT: true; the input reads as it did. -/
def fnEncipherTweakShiftSpec : ChangeSpec := { name := "fnEncipherTweakShift", fn := fun _ => fun
  | [d1, d2, d3, d4, d5, d6, d7] => { results := [.lit (.bool true)], args := [d1, d2, d3, d4, d5, d6, d7] }
  | _ => none }
def fnEncipherTweakShiftRow : OpenClaim := { program := "qxb6614255amods", sum := "42813a0f10aa8658f24fceec406ccc748088653bf6791b520159cf07a323e73b", func := "example.com/anchorhold/anchorhold/zzlaws_aez_b1.FnEncipherTweakShift", spec := "fnEncipherTweakShift", named := ["encoding/binary.LittleEndian"], make := .lifted ["publicsums"], apart := false }
def FnEncipherTweakShiftSaid : Prop := fnEncipherTweakShiftRow.holds Trym.pinned (OpenSpec.ofChange fnEncipherTweakShiftSpec)

/-- ITS FALSE NEIGHBOUR: 'it returns false'. Refute it at one input. -/
def fnEncipherTweakShiftWrong : ChangeSpec := { name := "fnEncipherTweakShift", fn := fun _ => fun
  | [d1, d2, d3, d4, d5, d6, d7] => { results := [.lit (.bool false)], args := [d1, d2, d3, d4, d5, d6, d7] }
  | _ => none }
def FnEncipherTweakShiftWrongFalsely : Prop := fnEncipherTweakShiftRow.holds Trym.pinned (OpenSpec.ofChange fnEncipherTweakShiftWrong)

end Rows
end Go.Proofs.Qxb6614255aMods
