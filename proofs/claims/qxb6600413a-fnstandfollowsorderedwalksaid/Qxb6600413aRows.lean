/-
  No cell of these rows narrows 'for every input' (looked for: loops, veiled, ifaces, maps, wideKeys, modest, calm, conditions, laid).
  DERIVED. THE GIVEN ROWS OF THIS SEAT. 8 by the template 'for every input the law returns true; each argument reads behind the call as it read before'; 0 by the template 'total and deterministic' (their statements: Qxb6600413aTotals.lean).
  GIVEN WITH THE SEED: the statements are not yours to turn. If you find one false, say at which input.
  Laid BY PROGRAM, IN A SANDBOX (cutbox-rows.mjs): the forced cells as the released guide's own fill.sh prints them over the translation 90bc07e390d41192… (all of the seat's roots in one cut). By AI agents, Wed Nov 11 2026. No macro, syntax, notation, axiom, sorry.
-/
import Derived.Test.Qxb6600413aChecked
import GoSem.Claim
import GoSem.ClaimJoined
import GoSem.ClaimMapViews
import Derived.JoinedTies
import Derived.KernelRfl
namespace Go.Proofs.Qxb6600413a
/- THE CELL 'sum', in the pinned program and in every row, IS THE sha256 OF THE DUMP (.gsa) THAT Qxb6600413aProg.lean LOADS. Nothing in Lean hashes anything: it is a label: what it is worth is what the hold of that sum in a sandbox is worth. -/
noncomputable def Try.pinned : Pinned := { name := "qxb6600413a", sum := "90bc07e390d41192ff7039d6372f4588b2c7a540b04744983fcbd2ada4da641c", checked := Try.checked }
namespace Rows
def none {H : Type} : Left H := { results := [], args := [] }

/-- 'zzlaws_root_b1.FnMergeIsPointwiseMax': WHATEVER THE INPUT: true; the input reads as it did. -/
def fnMergeIsPointwiseMaxSpec : ChangeSpec := { name := "fnMergeIsPointwiseMax", fn := fun _ => fun
  | [d1, d2, d3, d4] => { results := [.lit (.bool true)], args := [d1, d2, d3, d4] }
  | _ => none }
def fnMergeIsPointwiseMaxRow : OpenClaim := { program := "qxb6600413a", sum := "90bc07e390d41192ff7039d6372f4588b2c7a540b04744983fcbd2ada4da641c", func := "example.com/tallymark/tallymark/zzlaws_root_b1.FnMergeIsPointwiseMax", spec := "fnMergeIsPointwiseMax", apart := false }
def FnMergeIsPointwiseMaxSaid : Prop := fnMergeIsPointwiseMaxRow.holds Try.pinned (OpenSpec.ofChange fnMergeIsPointwiseMaxSpec)

/-- ITS FALSE NEIGHBOUR: 'it returns false'. Refute it at one input. -/
def fnMergeIsPointwiseMaxWrong : ChangeSpec := { name := "fnMergeIsPointwiseMax", fn := fun _ => fun
  | [d1, d2, d3, d4] => { results := [.lit (.bool false)], args := [d1, d2, d3, d4] }
  | _ => none }
def FnMergeIsPointwiseMaxWrongFalsely : Prop := fnMergeIsPointwiseMaxRow.holds Try.pinned (OpenSpec.ofChange fnMergeIsPointwiseMaxWrong)

/-- 'zzlaws_root_b1.FnMergeIsSemilattice': WHATEVER THE INPUT: true; the input reads as it did. -/
def fnMergeIsSemilatticeSpec : ChangeSpec := { name := "fnMergeIsSemilattice", fn := fun _ => fun
  | [d1, d2, d3, d4, d5, d6] => { results := [.lit (.bool true)], args := [d1, d2, d3, d4, d5, d6] }
  | _ => none }
def fnMergeIsSemilatticeRow : OpenClaim := { program := "qxb6600413a", sum := "90bc07e390d41192ff7039d6372f4588b2c7a540b04744983fcbd2ada4da641c", func := "example.com/tallymark/tallymark/zzlaws_root_b1.FnMergeIsSemilattice", spec := "fnMergeIsSemilattice", apart := false }
def FnMergeIsSemilatticeSaid : Prop := fnMergeIsSemilatticeRow.holds Try.pinned (OpenSpec.ofChange fnMergeIsSemilatticeSpec)

/-- ITS FALSE NEIGHBOUR: 'it returns false'. Refute it at one input. -/
def fnMergeIsSemilatticeWrong : ChangeSpec := { name := "fnMergeIsSemilattice", fn := fun _ => fun
  | [d1, d2, d3, d4, d5, d6] => { results := [.lit (.bool false)], args := [d1, d2, d3, d4, d5, d6] }
  | _ => none }
def FnMergeIsSemilatticeWrongFalsely : Prop := fnMergeIsSemilatticeRow.holds Try.pinned (OpenSpec.ofChange fnMergeIsSemilatticeWrong)

/-- 'zzlaws_root_b1.FnMergeAgreesWithStand': WHATEVER THE INPUT: true; the input reads as it did. -/
def fnMergeAgreesWithStandSpec : ChangeSpec := { name := "fnMergeAgreesWithStand", fn := fun _ => fun
  | [d1, d2, d3, d4] => { results := [.lit (.bool true)], args := [d1, d2, d3, d4] }
  | _ => none }
def fnMergeAgreesWithStandRow : OpenClaim := { program := "qxb6600413a", sum := "90bc07e390d41192ff7039d6372f4588b2c7a540b04744983fcbd2ada4da641c", func := "example.com/tallymark/tallymark/zzlaws_root_b1.FnMergeAgreesWithStand", spec := "fnMergeAgreesWithStand", apart := false }
def FnMergeAgreesWithStandSaid : Prop := fnMergeAgreesWithStandRow.holds Try.pinned (OpenSpec.ofChange fnMergeAgreesWithStandSpec)

/-- ITS FALSE NEIGHBOUR: 'it returns false'. Refute it at one input. -/
def fnMergeAgreesWithStandWrong : ChangeSpec := { name := "fnMergeAgreesWithStand", fn := fun _ => fun
  | [d1, d2, d3, d4] => { results := [.lit (.bool false)], args := [d1, d2, d3, d4] }
  | _ => none }
def FnMergeAgreesWithStandWrongFalsely : Prop := fnMergeAgreesWithStandRow.holds Try.pinned (OpenSpec.ofChange fnMergeAgreesWithStandWrong)

/-- 'zzlaws_root_b1.FnStandFollowsOrderedWalk': WHATEVER THE INPUT: true; the input reads as it did. -/
def fnStandFollowsOrderedWalkSpec : ChangeSpec := { name := "fnStandFollowsOrderedWalk", fn := fun _ => fun
  | [d1, d2, d3, d4, d5] => { results := [.lit (.bool true)], args := [d1, d2, d3, d4, d5] }
  | _ => none }
def fnStandFollowsOrderedWalkRow : OpenClaim := { program := "qxb6600413a", sum := "90bc07e390d41192ff7039d6372f4588b2c7a540b04744983fcbd2ada4da641c", func := "example.com/tallymark/tallymark/zzlaws_root_b1.FnStandFollowsOrderedWalk", spec := "fnStandFollowsOrderedWalk", apart := false }
def FnStandFollowsOrderedWalkSaid : Prop := fnStandFollowsOrderedWalkRow.holds Try.pinned (OpenSpec.ofChange fnStandFollowsOrderedWalkSpec)

/-- ITS FALSE NEIGHBOUR: 'it returns false'. Refute it at one input. -/
def fnStandFollowsOrderedWalkWrong : ChangeSpec := { name := "fnStandFollowsOrderedWalk", fn := fun _ => fun
  | [d1, d2, d3, d4, d5] => { results := [.lit (.bool false)], args := [d1, d2, d3, d4, d5] }
  | _ => none }
def FnStandFollowsOrderedWalkWrongFalsely : Prop := fnStandFollowsOrderedWalkRow.holds Try.pinned (OpenSpec.ofChange fnStandFollowsOrderedWalkWrong)

/-- 'zzlaws_root_b1.FnStandFullComparisonClosedForm': WHATEVER THE INPUT: true; the input reads as it did. -/
def fnStandFullComparisonClosedFormSpec : ChangeSpec := { name := "fnStandFullComparisonClosedForm", fn := fun _ => fun
  | [d1, d2, d3, d4] => { results := [.lit (.bool true)], args := [d1, d2, d3, d4] }
  | _ => none }
def fnStandFullComparisonClosedFormRow : OpenClaim := { program := "qxb6600413a", sum := "90bc07e390d41192ff7039d6372f4588b2c7a540b04744983fcbd2ada4da641c", func := "example.com/tallymark/tallymark/zzlaws_root_b1.FnStandFullComparisonClosedForm", spec := "fnStandFullComparisonClosedForm", apart := false }
def FnStandFullComparisonClosedFormSaid : Prop := fnStandFullComparisonClosedFormRow.holds Try.pinned (OpenSpec.ofChange fnStandFullComparisonClosedFormSpec)

/-- ITS FALSE NEIGHBOUR: 'it returns false'. Refute it at one input. -/
def fnStandFullComparisonClosedFormWrong : ChangeSpec := { name := "fnStandFullComparisonClosedForm", fn := fun _ => fun
  | [d1, d2, d3, d4] => { results := [.lit (.bool false)], args := [d1, d2, d3, d4] }
  | _ => none }
def FnStandFullComparisonClosedFormWrongFalsely : Prop := fnStandFullComparisonClosedFormRow.holds Try.pinned (OpenSpec.ofChange fnStandFullComparisonClosedFormWrong)

/-- 'zzlaws_root_b1.FnStandMirrorsUnderSwap': WHATEVER THE INPUT: true; the input reads as it did. -/
def fnStandMirrorsUnderSwapSpec : ChangeSpec := { name := "fnStandMirrorsUnderSwap", fn := fun _ => fun
  | [d1, d2, d3, d4, d5] => { results := [.lit (.bool true)], args := [d1, d2, d3, d4, d5] }
  | _ => none }
def fnStandMirrorsUnderSwapRow : OpenClaim := { program := "qxb6600413a", sum := "90bc07e390d41192ff7039d6372f4588b2c7a540b04744983fcbd2ada4da641c", func := "example.com/tallymark/tallymark/zzlaws_root_b1.FnStandMirrorsUnderSwap", spec := "fnStandMirrorsUnderSwap", apart := false }
def FnStandMirrorsUnderSwapSaid : Prop := fnStandMirrorsUnderSwapRow.holds Try.pinned (OpenSpec.ofChange fnStandMirrorsUnderSwapSpec)

/-- ITS FALSE NEIGHBOUR: 'it returns false'. Refute it at one input. -/
def fnStandMirrorsUnderSwapWrong : ChangeSpec := { name := "fnStandMirrorsUnderSwap", fn := fun _ => fun
  | [d1, d2, d3, d4, d5] => { results := [.lit (.bool false)], args := [d1, d2, d3, d4, d5] }
  | _ => none }
def FnStandMirrorsUnderSwapWrongFalsely : Prop := fnStandMirrorsUnderSwapRow.holds Try.pinned (OpenSpec.ofChange fnStandMirrorsUnderSwapWrong)

/-- 'zzlaws_root_b1.FnStandRestFollowsOrderedWalk': WHATEVER THE INPUT: true; the input reads as it did. -/
def fnStandRestFollowsOrderedWalkSpec : ChangeSpec := { name := "fnStandRestFollowsOrderedWalk", fn := fun _ => fun
  | [d1, d2, d3, d4, d5, d6] => { results := [.lit (.bool true)], args := [d1, d2, d3, d4, d5, d6] }
  | _ => none }
def fnStandRestFollowsOrderedWalkRow : OpenClaim := { program := "qxb6600413a", sum := "90bc07e390d41192ff7039d6372f4588b2c7a540b04744983fcbd2ada4da641c", func := "example.com/tallymark/tallymark/zzlaws_root_b1.FnStandRestFollowsOrderedWalk", spec := "fnStandRestFollowsOrderedWalk", apart := false }
def FnStandRestFollowsOrderedWalkSaid : Prop := fnStandRestFollowsOrderedWalkRow.holds Try.pinned (OpenSpec.ofChange fnStandRestFollowsOrderedWalkSpec)

/-- ITS FALSE NEIGHBOUR: 'it returns false'. Refute it at one input. -/
def fnStandRestFollowsOrderedWalkWrong : ChangeSpec := { name := "fnStandRestFollowsOrderedWalk", fn := fun _ => fun
  | [d1, d2, d3, d4, d5, d6] => { results := [.lit (.bool false)], args := [d1, d2, d3, d4, d5, d6] }
  | _ => none }
def FnStandRestFollowsOrderedWalkWrongFalsely : Prop := fnStandRestFollowsOrderedWalkRow.holds Try.pinned (OpenSpec.ofChange fnStandRestFollowsOrderedWalkWrong)

/-- 'zzlaws_root_b1.FnStandAgreesWithStandRest': WHATEVER THE INPUT: true; the input reads as it did. -/
def fnStandAgreesWithStandRestSpec : ChangeSpec := { name := "fnStandAgreesWithStandRest", fn := fun _ => fun
  | [d1, d2, d3, d4, d5] => { results := [.lit (.bool true)], args := [d1, d2, d3, d4, d5] }
  | _ => none }
def fnStandAgreesWithStandRestRow : OpenClaim := { program := "qxb6600413a", sum := "90bc07e390d41192ff7039d6372f4588b2c7a540b04744983fcbd2ada4da641c", func := "example.com/tallymark/tallymark/zzlaws_root_b1.FnStandAgreesWithStandRest", spec := "fnStandAgreesWithStandRest", apart := false }
def FnStandAgreesWithStandRestSaid : Prop := fnStandAgreesWithStandRestRow.holds Try.pinned (OpenSpec.ofChange fnStandAgreesWithStandRestSpec)

/-- ITS FALSE NEIGHBOUR: 'it returns false'. Refute it at one input. -/
def fnStandAgreesWithStandRestWrong : ChangeSpec := { name := "fnStandAgreesWithStandRest", fn := fun _ => fun
  | [d1, d2, d3, d4, d5] => { results := [.lit (.bool false)], args := [d1, d2, d3, d4, d5] }
  | _ => none }
def FnStandAgreesWithStandRestWrongFalsely : Prop := fnStandAgreesWithStandRestRow.holds Try.pinned (OpenSpec.ofChange fnStandAgreesWithStandRestWrong)

end Rows
end Go.Proofs.Qxb6600413a
