/-
  No cell of these rows narrows 'for every input' (looked for: loops, veiled, ifaces, maps, wideKeys, modest, calm, conditions, laid).
  DERIVED. THE GIVEN ROWS OF THIS SEAT. 5 by the template 'for every input the law returns true; each argument reads behind the call as it read before'; 0 by the template 'total and deterministic' (their statements: Qxb6600147aModsTotals.lean).
  GIVEN WITH THE SEED: the statements are not yours to turn. If you find one false, say at which input.
  Laid BY PROGRAM, IN A SANDBOX (cutbox-rows.mjs): the forced cells as the released guide's own fill.sh prints them over the translation 738efca746ac6912… (all of the seat's roots in one cut). By AI agents, Wed Nov 11 2026. No macro, syntax, notation, axiom, sorry.
-/
import Derived.Test.Qxb6600147aModsChecked
import GoSem.Claim
import GoSem.ClaimJoined
import GoSem.ClaimMapViews
import Derived.JoinedTies
import Derived.KernelRfl
namespace Go.Proofs.Qxb6600147aMods
/- THE CELL 'sum', in the pinned program and in every row, IS THE sha256 OF THE DUMP (.gsa) THAT Qxb6600147aModsProg.lean LOADS. Nothing in Lean hashes anything: it is a label: what it is worth is what the hold of that sum in a sandbox is worth. -/
noncomputable def Trym.pinned : Pinned := { name := "qxb6600147amods", sum := "738efca746ac69128badd8ebd59565222be064cb7baf0ea4a8f7f016e405e146", checked := Trym.checked }
namespace Rows
def none {H : Type} : Left H := { results := [], args := [] }

/-- 'zzlaws_root_b1.FnDealHandDistinctInRange': WHATEVER THE INPUT: true; the input reads as it did. -/
def fnDealHandDistinctInRangeSpec : ChangeSpec := { name := "fnDealHandDistinctInRange", fn := fun _ => fun
  | [d1, d2, d3] => { results := [.lit (.bool true)], args := [d1, d2, d3] }
  | _ => none }
def fnDealHandDistinctInRangeRow : OpenClaim := { program := "qxb6600147amods", sum := "738efca746ac69128badd8ebd59565222be064cb7baf0ea4a8f7f016e405e146", func := "example.com/sluice-gate/sluice-gate/zzlaws_root_b1.FnDealHandDistinctInRange", spec := "fnDealHandDistinctInRange", make := .lifted ["publicsums"], apart := false }
def FnDealHandDistinctInRangeSaid : Prop := fnDealHandDistinctInRangeRow.holds Trym.pinned (OpenSpec.ofChange fnDealHandDistinctInRangeSpec)

/-- ITS FALSE NEIGHBOUR: 'it returns false'. Refute it at one input. -/
def fnDealHandDistinctInRangeWrong : ChangeSpec := { name := "fnDealHandDistinctInRange", fn := fun _ => fun
  | [d1, d2, d3] => { results := [.lit (.bool false)], args := [d1, d2, d3] }
  | _ => none }
def FnDealHandDistinctInRangeWrongFalsely : Prop := fnDealHandDistinctInRangeRow.holds Trym.pinned (OpenSpec.ofChange fnDealHandDistinctInRangeWrong)

/-- 'zzlaws_root_b1.FnDealHandInverse': WHATEVER THE INPUT: true; the input reads as it did. -/
def fnDealHandInverseSpec : ChangeSpec := { name := "fnDealHandInverse", fn := fun _ => fun
  | [d1, d2, d3] => { results := [.lit (.bool true)], args := [d1, d2, d3] }
  | _ => none }
def fnDealHandInverseRow : OpenClaim := { program := "qxb6600147amods", sum := "738efca746ac69128badd8ebd59565222be064cb7baf0ea4a8f7f016e405e146", func := "example.com/sluice-gate/sluice-gate/zzlaws_root_b1.FnDealHandInverse", spec := "fnDealHandInverse", make := .lifted ["publicsums"], apart := false }
def FnDealHandInverseSaid : Prop := fnDealHandInverseRow.holds Trym.pinned (OpenSpec.ofChange fnDealHandInverseSpec)

/-- ITS FALSE NEIGHBOUR: 'it returns false'. Refute it at one input. -/
def fnDealHandInverseWrong : ChangeSpec := { name := "fnDealHandInverse", fn := fun _ => fun
  | [d1, d2, d3] => { results := [.lit (.bool false)], args := [d1, d2, d3] }
  | _ => none }
def FnDealHandInverseWrongFalsely : Prop := fnDealHandInverseRow.holds Trym.pinned (OpenSpec.ofChange fnDealHandInverseWrong)

/-- 'zzlaws_root_b1.FnDealHandPrefix': WHATEVER THE INPUT: true; the input reads as it did. -/
def fnDealHandPrefixSpec : ChangeSpec := { name := "fnDealHandPrefix", fn := fun _ => fun
  | [d1, d2, d3, d4] => { results := [.lit (.bool true)], args := [d1, d2, d3, d4] }
  | _ => none }
def fnDealHandPrefixRow : OpenClaim := { program := "qxb6600147amods", sum := "738efca746ac69128badd8ebd59565222be064cb7baf0ea4a8f7f016e405e146", func := "example.com/sluice-gate/sluice-gate/zzlaws_root_b1.FnDealHandPrefix", spec := "fnDealHandPrefix", make := .lifted ["publicsums"], apart := false }
def FnDealHandPrefixSaid : Prop := fnDealHandPrefixRow.holds Trym.pinned (OpenSpec.ofChange fnDealHandPrefixSpec)

/-- ITS FALSE NEIGHBOUR: 'it returns false'. Refute it at one input. -/
def fnDealHandPrefixWrong : ChangeSpec := { name := "fnDealHandPrefix", fn := fun _ => fun
  | [d1, d2, d3, d4] => { results := [.lit (.bool false)], args := [d1, d2, d3, d4] }
  | _ => none }
def FnDealHandPrefixWrongFalsely : Prop := fnDealHandPrefixRow.holds Trym.pinned (OpenSpec.ofChange fnDealHandPrefixWrong)

/-- 'zzlaws_root_b1.FnFoundValueIdempotent': WHATEVER THE INPUT: true; the input reads as it did. -/
def fnFoundValueIdempotentSpec : ChangeSpec := { name := "fnFoundValueIdempotent", fn := fun _ => fun
  | [d] => { results := [.lit (.bool true)], args := [d] }
  | _ => none }
def fnFoundValueIdempotentRow : OpenClaim := { program := "qxb6600147amods", sum := "738efca746ac69128badd8ebd59565222be064cb7baf0ea4a8f7f016e405e146", func := "example.com/sluice-gate/sluice-gate/zzlaws_root_b1.FnFoundValueIdempotent", spec := "fnFoundValueIdempotent", make := .lifted ["publicsums"], apart := false }
def FnFoundValueIdempotentSaid : Prop := fnFoundValueIdempotentRow.holds Trym.pinned (OpenSpec.ofChange fnFoundValueIdempotentSpec)

/-- ITS FALSE NEIGHBOUR: 'it returns false'. Refute it at one input. -/
def fnFoundValueIdempotentWrong : ChangeSpec := { name := "fnFoundValueIdempotent", fn := fun _ => fun
  | [d] => { results := [.lit (.bool false)], args := [d] }
  | _ => none }
def FnFoundValueIdempotentWrongFalsely : Prop := fnFoundValueIdempotentRow.holds Trym.pinned (OpenSpec.ofChange fnFoundValueIdempotentWrong)

/-- 'zzlaws_root_b1.FnFoundValueKeepsWhatItIsTold': WHATEVER THE INPUT: true; the input reads as it did. -/
def fnFoundValueKeepsWhatItIsToldSpec : ChangeSpec := { name := "fnFoundValueKeepsWhatItIsTold", fn := fun _ => fun
  | [d] => { results := [.lit (.bool true)], args := [d] }
  | _ => none }
def fnFoundValueKeepsWhatItIsToldRow : OpenClaim := { program := "qxb6600147amods", sum := "738efca746ac69128badd8ebd59565222be064cb7baf0ea4a8f7f016e405e146", func := "example.com/sluice-gate/sluice-gate/zzlaws_root_b1.FnFoundValueKeepsWhatItIsTold", spec := "fnFoundValueKeepsWhatItIsTold", make := .lifted ["publicsums"], apart := false }
def FnFoundValueKeepsWhatItIsToldSaid : Prop := fnFoundValueKeepsWhatItIsToldRow.holds Trym.pinned (OpenSpec.ofChange fnFoundValueKeepsWhatItIsToldSpec)

/-- ITS FALSE NEIGHBOUR: 'it returns false'. Refute it at one input. -/
def fnFoundValueKeepsWhatItIsToldWrong : ChangeSpec := { name := "fnFoundValueKeepsWhatItIsTold", fn := fun _ => fun
  | [d] => { results := [.lit (.bool false)], args := [d] }
  | _ => none }
def FnFoundValueKeepsWhatItIsToldWrongFalsely : Prop := fnFoundValueKeepsWhatItIsToldRow.holds Trym.pinned (OpenSpec.ofChange fnFoundValueKeepsWhatItIsToldWrong)

end Rows
end Go.Proofs.Qxb6600147aMods
