/-
  No cell of these rows narrows 'for every input' (looked for: loops, veiled, ifaces, maps, wideKeys, modest, calm, conditions, laid).
  DERIVED. THE GIVEN ROWS OF THIS SEAT. 6 by the template 'for every input the law returns true; each argument reads behind the call as it read before'; 0 by the template 'total and deterministic' (their statements: Qxb6000829aTotals.lean).
  GIVEN WITH THE SEED: the statements are not yours to turn. If you find one false, say at which input.
  Laid BY PROGRAM, IN A SANDBOX (cutbox-rows.mjs): the forced cells as the released guide's own fill.sh prints them over the translation b16d13148c61d569… (all of the seat's roots in one cut). By AI agents, Wed Nov 11 2026. No macro, syntax, notation, axiom, sorry.
-/
import Derived.Test.Qxb6000829aChecked
import GoSem.Claim
import GoSem.ClaimJoined
import GoSem.ClaimMapViews
import Derived.JoinedTies
import Derived.KernelRfl
namespace Go.Proofs.Qxb6000829a
/- THE CELL 'sum', in the pinned program and in every row, IS THE sha256 OF THE DUMP (.gsa) THAT Qxb6000829aProg.lean LOADS. Nothing in Lean hashes anything: it is a label: what it is worth is what the hold of that sum in a sandbox is worth. -/
noncomputable def Try.pinned : Pinned := { name := "qxb6000829a", sum := "b16d13148c61d569ba79be23e8c9d0eee58734749d47cce57425f78f5074744f", checked := Try.checked }
namespace Rows
def none {H : Type} : Left H := { results := [], args := [] }

/-- 'zzlaws_internal_peer_b1.FnNextCommutes': WHATEVER THE INPUT: true; the input reads as it did. -/
def fnNextCommutesSpec : ChangeSpec := { name := "fnNextCommutes", fn := fun _ => fun
  | [d1, d2, d3] => { results := [.lit (.bool true)], args := [d1, d2, d3] }
  | _ => none }
def fnNextCommutesRow : OpenClaim := { program := "qxb6000829a", sum := "b16d13148c61d569ba79be23e8c9d0eee58734749d47cce57425f78f5074744f", func := "example.com/tideholm/tideholm/zzlaws_internal_peer_b1.FnNextCommutes", spec := "fnNextCommutes", apart := false }
def FnNextCommutesSaid : Prop := fnNextCommutesRow.holds Try.pinned (OpenSpec.ofChange fnNextCommutesSpec)

/-- ITS FALSE NEIGHBOUR: 'it returns false'. Refute it at one input. -/
def fnNextCommutesWrong : ChangeSpec := { name := "fnNextCommutes", fn := fun _ => fun
  | [d1, d2, d3] => { results := [.lit (.bool false)], args := [d1, d2, d3] }
  | _ => none }
def FnNextCommutesWrongFalsely : Prop := fnNextCommutesRow.holds Try.pinned (OpenSpec.ofChange fnNextCommutesWrong)

/-- 'zzlaws_internal_peer_b1.FnNextEstimateSums': WHATEVER THE INPUT: true; the input reads as it did. -/
def fnNextEstimateSumsSpec : ChangeSpec := { name := "fnNextEstimateSums", fn := fun _ => fun
  | [d1, d2, d3] => { results := [.lit (.bool true)], args := [d1, d2, d3] }
  | _ => none }
def fnNextEstimateSumsRow : OpenClaim := { program := "qxb6000829a", sum := "b16d13148c61d569ba79be23e8c9d0eee58734749d47cce57425f78f5074744f", func := "example.com/tideholm/tideholm/zzlaws_internal_peer_b1.FnNextEstimateSums", spec := "fnNextEstimateSums", apart := false }
def FnNextEstimateSumsSaid : Prop := fnNextEstimateSumsRow.holds Try.pinned (OpenSpec.ofChange fnNextEstimateSumsSpec)

/-- ITS FALSE NEIGHBOUR: 'it returns false'. Refute it at one input. -/
def fnNextEstimateSumsWrong : ChangeSpec := { name := "fnNextEstimateSums", fn := fun _ => fun
  | [d1, d2, d3] => { results := [.lit (.bool false)], args := [d1, d2, d3] }
  | _ => none }
def FnNextEstimateSumsWrongFalsely : Prop := fnNextEstimateSumsRow.holds Try.pinned (OpenSpec.ofChange fnNextEstimateSumsWrong)

/-- 'zzlaws_internal_peer_b1.FnFillIdempotent': WHATEVER THE INPUT: true; the input reads as it did. -/
def fnFillIdempotentSpec : ChangeSpec := { name := "fnFillIdempotent", fn := fun _ => fun
  | [d1, d2, d3] => { results := [.lit (.bool true)], args := [d1, d2, d3] }
  | _ => none }
def fnFillIdempotentRow : OpenClaim := { program := "qxb6000829a", sum := "b16d13148c61d569ba79be23e8c9d0eee58734749d47cce57425f78f5074744f", func := "example.com/tideholm/tideholm/zzlaws_internal_peer_b1.FnFillIdempotent", spec := "fnFillIdempotent", apart := false }
def FnFillIdempotentSaid : Prop := fnFillIdempotentRow.holds Try.pinned (OpenSpec.ofChange fnFillIdempotentSpec)

/-- ITS FALSE NEIGHBOUR: 'it returns false'. Refute it at one input. -/
def fnFillIdempotentWrong : ChangeSpec := { name := "fnFillIdempotent", fn := fun _ => fun
  | [d1, d2, d3] => { results := [.lit (.bool false)], args := [d1, d2, d3] }
  | _ => none }
def FnFillIdempotentWrongFalsely : Prop := fnFillIdempotentRow.holds Try.pinned (OpenSpec.ofChange fnFillIdempotentWrong)

/-- 'zzlaws_internal_peer_b1.FnFillEstimate': WHATEVER THE INPUT: true; the input reads as it did. -/
def fnFillEstimateSpec : ChangeSpec := { name := "fnFillEstimate", fn := fun _ => fun
  | [d1, d2, d3] => { results := [.lit (.bool true)], args := [d1, d2, d3] }
  | _ => none }
def fnFillEstimateRow : OpenClaim := { program := "qxb6000829a", sum := "b16d13148c61d569ba79be23e8c9d0eee58734749d47cce57425f78f5074744f", func := "example.com/tideholm/tideholm/zzlaws_internal_peer_b1.FnFillEstimate", spec := "fnFillEstimate", apart := false }
def FnFillEstimateSaid : Prop := fnFillEstimateRow.holds Try.pinned (OpenSpec.ofChange fnFillEstimateSpec)

/-- ITS FALSE NEIGHBOUR: 'it returns false'. Refute it at one input. -/
def fnFillEstimateWrong : ChangeSpec := { name := "fnFillEstimate", fn := fun _ => fun
  | [d1, d2, d3] => { results := [.lit (.bool false)], args := [d1, d2, d3] }
  | _ => none }
def FnFillEstimateWrongFalsely : Prop := fnFillEstimateRow.holds Try.pinned (OpenSpec.ofChange fnFillEstimateWrong)

/-- 'zzlaws_internal_peer_b1.FnFillSharesOnlyWhenTakingNothing': WHATEVER THE INPUT: true; the input reads as it did. -/
def fnFillSharesOnlyWhenTakingNothingSpec : ChangeSpec := { name := "fnFillSharesOnlyWhenTakingNothing", fn := fun _ => fun
  | [d1, d2, d3] => { results := [.lit (.bool true)], args := [d1, d2, d3] }
  | _ => none }
def fnFillSharesOnlyWhenTakingNothingRow : OpenClaim := { program := "qxb6000829a", sum := "b16d13148c61d569ba79be23e8c9d0eee58734749d47cce57425f78f5074744f", func := "example.com/tideholm/tideholm/zzlaws_internal_peer_b1.FnFillSharesOnlyWhenTakingNothing", spec := "fnFillSharesOnlyWhenTakingNothing", apart := false }
def FnFillSharesOnlyWhenTakingNothingSaid : Prop := fnFillSharesOnlyWhenTakingNothingRow.holds Try.pinned (OpenSpec.ofChange fnFillSharesOnlyWhenTakingNothingSpec)

/-- ITS FALSE NEIGHBOUR: 'it returns false'. Refute it at one input. -/
def fnFillSharesOnlyWhenTakingNothingWrong : ChangeSpec := { name := "fnFillSharesOnlyWhenTakingNothing", fn := fun _ => fun
  | [d1, d2, d3] => { results := [.lit (.bool false)], args := [d1, d2, d3] }
  | _ => none }
def FnFillSharesOnlyWhenTakingNothingWrongFalsely : Prop := fnFillSharesOnlyWhenTakingNothingRow.holds Try.pinned (OpenSpec.ofChange fnFillSharesOnlyWhenTakingNothingWrong)

/-- 'zzlaws_internal_peer_b1.FnEstimatePrefix': WHATEVER THE INPUT: true; the input reads as it did. -/
def fnEstimatePrefixSpec : ChangeSpec := { name := "fnEstimatePrefix", fn := fun _ => fun
  | [d1, d2, d3] => { results := [.lit (.bool true)], args := [d1, d2, d3] }
  | _ => none }
def fnEstimatePrefixRow : OpenClaim := { program := "qxb6000829a", sum := "b16d13148c61d569ba79be23e8c9d0eee58734749d47cce57425f78f5074744f", func := "example.com/tideholm/tideholm/zzlaws_internal_peer_b1.FnEstimatePrefix", spec := "fnEstimatePrefix", apart := false }
def FnEstimatePrefixSaid : Prop := fnEstimatePrefixRow.holds Try.pinned (OpenSpec.ofChange fnEstimatePrefixSpec)

/-- ITS FALSE NEIGHBOUR: 'it returns false'. Refute it at one input. -/
def fnEstimatePrefixWrong : ChangeSpec := { name := "fnEstimatePrefix", fn := fun _ => fun
  | [d1, d2, d3] => { results := [.lit (.bool false)], args := [d1, d2, d3] }
  | _ => none }
def FnEstimatePrefixWrongFalsely : Prop := fnEstimatePrefixRow.holds Try.pinned (OpenSpec.ofChange fnEstimatePrefixWrong)

end Rows
end Go.Proofs.Qxb6000829a
