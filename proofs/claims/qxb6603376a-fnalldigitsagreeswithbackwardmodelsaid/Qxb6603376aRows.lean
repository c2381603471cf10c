/-
  No cell of these rows narrows 'for every input' (looked for: loops, veiled, ifaces, maps, wideKeys, modest, calm, conditions, laid).
  DERIVED. THE GIVEN ROWS OF THIS SEAT. 6 by the template 'for every input the law returns true; each argument reads behind the call as it read before'; 0 by the template 'total and deterministic' (their statements: Qxb6603376aTotals.lean).
  GIVEN WITH THE SEED: the statements are not yours to turn. If you find one false, say at which input.
  Laid BY PROGRAM, IN A SANDBOX (cutbox-rows.mjs): the forced cells as the released guide's own fill.sh prints them over the translation 9022f18e79ecb161… (all of the seat's roots in one cut). By AI agents, Wed Nov 11 2026. No macro, syntax, notation, axiom, sorry.
-/
import Derived.Test.Qxb6603376aChecked
import GoSem.Claim
import GoSem.ClaimJoined
import GoSem.ClaimMapViews
import Derived.JoinedTies
import Derived.KernelRfl
namespace Go.Proofs.Qxb6603376a
/- THE CELL 'sum', in the pinned program and in every row, IS THE sha256 OF THE DUMP (.gsa) THAT Qxb6603376aProg.lean LOADS. Nothing in Lean hashes anything: it is a label: what it is worth is what the hold of that sum in a sandbox is worth. -/
noncomputable def Try.pinned : Pinned := { name := "qxb6603376a", sum := "9022f18e79ecb161f9725109e734f6c84af2316bf58173b3fd6ee53172fad901", checked := Try.checked }
namespace Rows
def none {H : Type} : Left H := { results := [], args := [] }

/-- 'zzlaws_root_b1.FnSerialRangeEndMonotone': WHATEVER THE INPUT: true; the input reads as it did. -/
def fnSerialRangeEndMonotoneSpec : ChangeSpec := { name := "fnSerialRangeEndMonotone", fn := fun _ => fun
  | [d1, d2] => { results := [.lit (.bool true)], args := [d1, d2] }
  | _ => none }
def fnSerialRangeEndMonotoneRow : OpenClaim := { program := "qxb6603376a", sum := "9022f18e79ecb161f9725109e734f6c84af2316bf58173b3fd6ee53172fad901", func := "example.com/zhaomu/zhaomu/zzlaws_root_b1.FnSerialRangeEndMonotone", spec := "fnSerialRangeEndMonotone", apart := false }
def FnSerialRangeEndMonotoneSaid : Prop := fnSerialRangeEndMonotoneRow.holds Try.pinned (OpenSpec.ofChange fnSerialRangeEndMonotoneSpec)

/-- ITS FALSE NEIGHBOUR: 'it returns false'. Refute it at one input. -/
def fnSerialRangeEndMonotoneWrong : ChangeSpec := { name := "fnSerialRangeEndMonotone", fn := fun _ => fun
  | [d1, d2] => { results := [.lit (.bool false)], args := [d1, d2] }
  | _ => none }
def FnSerialRangeEndMonotoneWrongFalsely : Prop := fnSerialRangeEndMonotoneRow.holds Try.pinned (OpenSpec.ofChange fnSerialRangeEndMonotoneWrong)

/-- 'zzlaws_root_b1.FnSerialRangeEndRangesTile': WHATEVER THE INPUT: true; the input reads as it did. -/
def fnSerialRangeEndRangesTileSpec : ChangeSpec := { name := "fnSerialRangeEndRangesTile", fn := fun _ => fun
  | [d] => { results := [.lit (.bool true)], args := [d] }
  | _ => none }
def fnSerialRangeEndRangesTileRow : OpenClaim := { program := "qxb6603376a", sum := "9022f18e79ecb161f9725109e734f6c84af2316bf58173b3fd6ee53172fad901", func := "example.com/zhaomu/zhaomu/zzlaws_root_b1.FnSerialRangeEndRangesTile", spec := "fnSerialRangeEndRangesTile", apart := false }
def FnSerialRangeEndRangesTileSaid : Prop := fnSerialRangeEndRangesTileRow.holds Try.pinned (OpenSpec.ofChange fnSerialRangeEndRangesTileSpec)

/-- ITS FALSE NEIGHBOUR: 'it returns false'. Refute it at one input. -/
def fnSerialRangeEndRangesTileWrong : ChangeSpec := { name := "fnSerialRangeEndRangesTile", fn := fun _ => fun
  | [d] => { results := [.lit (.bool false)], args := [d] }
  | _ => none }
def FnSerialRangeEndRangesTileWrongFalsely : Prop := fnSerialRangeEndRangesTileRow.holds Try.pinned (OpenSpec.ofChange fnSerialRangeEndRangesTileWrong)

/-- 'zzlaws_root_b1.FnAllDigitsAgreesWithBackwardModel': WHATEVER THE INPUT: true; the input reads as it did. -/
def fnAllDigitsAgreesWithBackwardModelSpec : ChangeSpec := { name := "fnAllDigitsAgreesWithBackwardModel", fn := fun _ => fun
  | [d] => { results := [.lit (.bool true)], args := [d] }
  | _ => none }
def fnAllDigitsAgreesWithBackwardModelRow : OpenClaim := { program := "qxb6603376a", sum := "9022f18e79ecb161f9725109e734f6c84af2316bf58173b3fd6ee53172fad901", func := "example.com/zhaomu/zhaomu/zzlaws_root_b1.FnAllDigitsAgreesWithBackwardModel", spec := "fnAllDigitsAgreesWithBackwardModel", apart := false }
def FnAllDigitsAgreesWithBackwardModelSaid : Prop := fnAllDigitsAgreesWithBackwardModelRow.holds Try.pinned (OpenSpec.ofChange fnAllDigitsAgreesWithBackwardModelSpec)

/-- ITS FALSE NEIGHBOUR: 'it returns false'. Refute it at one input. -/
def fnAllDigitsAgreesWithBackwardModelWrong : ChangeSpec := { name := "fnAllDigitsAgreesWithBackwardModel", fn := fun _ => fun
  | [d] => { results := [.lit (.bool false)], args := [d] }
  | _ => none }
def FnAllDigitsAgreesWithBackwardModelWrongFalsely : Prop := fnAllDigitsAgreesWithBackwardModelRow.holds Try.pinned (OpenSpec.ofChange fnAllDigitsAgreesWithBackwardModelWrong)

/-- 'zzlaws_root_b1.FnAllDigitsSplits': WHATEVER THE INPUT: true; the input reads as it did. -/
def fnAllDigitsSplitsSpec : ChangeSpec := { name := "fnAllDigitsSplits", fn := fun _ => fun
  | [d1, d2] => { results := [.lit (.bool true)], args := [d1, d2] }
  | _ => none }
def fnAllDigitsSplitsRow : OpenClaim := { program := "qxb6603376a", sum := "9022f18e79ecb161f9725109e734f6c84af2316bf58173b3fd6ee53172fad901", func := "example.com/zhaomu/zhaomu/zzlaws_root_b1.FnAllDigitsSplits", spec := "fnAllDigitsSplits", apart := false }
def FnAllDigitsSplitsSaid : Prop := fnAllDigitsSplitsRow.holds Try.pinned (OpenSpec.ofChange fnAllDigitsSplitsSpec)

/-- ITS FALSE NEIGHBOUR: 'it returns false'. Refute it at one input. -/
def fnAllDigitsSplitsWrong : ChangeSpec := { name := "fnAllDigitsSplits", fn := fun _ => fun
  | [d1, d2] => { results := [.lit (.bool false)], args := [d1, d2] }
  | _ => none }
def FnAllDigitsSplitsWrongFalsely : Prop := fnAllDigitsSplitsRow.holds Try.pinned (OpenSpec.ofChange fnAllDigitsSplitsWrong)

/-- 'zzlaws_root_b1.FnConfirmedBusinessIdempotent': WHATEVER THE INPUT: true; the input reads as it did. -/
def fnConfirmedBusinessIdempotentSpec : ChangeSpec := { name := "fnConfirmedBusinessIdempotent", fn := fun _ => fun
  | [d] => { results := [.lit (.bool true)], args := [d] }
  | _ => none }
def fnConfirmedBusinessIdempotentRow : OpenClaim := { program := "qxb6603376a", sum := "9022f18e79ecb161f9725109e734f6c84af2316bf58173b3fd6ee53172fad901", func := "example.com/zhaomu/zhaomu/zzlaws_root_b1.FnConfirmedBusinessIdempotent", spec := "fnConfirmedBusinessIdempotent", apart := false }
def FnConfirmedBusinessIdempotentSaid : Prop := fnConfirmedBusinessIdempotentRow.holds Try.pinned (OpenSpec.ofChange fnConfirmedBusinessIdempotentSpec)

/-- ITS FALSE NEIGHBOUR: 'it returns false'. Refute it at one input. -/
def fnConfirmedBusinessIdempotentWrong : ChangeSpec := { name := "fnConfirmedBusinessIdempotent", fn := fun _ => fun
  | [d] => { results := [.lit (.bool false)], args := [d] }
  | _ => none }
def FnConfirmedBusinessIdempotentWrongFalsely : Prop := fnConfirmedBusinessIdempotentRow.holds Try.pinned (OpenSpec.ofChange fnConfirmedBusinessIdempotentWrong)

/-- 'zzlaws_root_b1.FnConfirmedBusinessCollisionsOnlyPairs': WHATEVER THE INPUT: true; the input reads as it did. -/
def fnConfirmedBusinessCollisionsOnlyPairsSpec : ChangeSpec := { name := "fnConfirmedBusinessCollisionsOnlyPairs", fn := fun _ => fun
  | [d1, d2] => { results := [.lit (.bool true)], args := [d1, d2] }
  | _ => none }
def fnConfirmedBusinessCollisionsOnlyPairsRow : OpenClaim := { program := "qxb6603376a", sum := "9022f18e79ecb161f9725109e734f6c84af2316bf58173b3fd6ee53172fad901", func := "example.com/zhaomu/zhaomu/zzlaws_root_b1.FnConfirmedBusinessCollisionsOnlyPairs", spec := "fnConfirmedBusinessCollisionsOnlyPairs", apart := false }
def FnConfirmedBusinessCollisionsOnlyPairsSaid : Prop := fnConfirmedBusinessCollisionsOnlyPairsRow.holds Try.pinned (OpenSpec.ofChange fnConfirmedBusinessCollisionsOnlyPairsSpec)

/-- ITS FALSE NEIGHBOUR: 'it returns false'. Refute it at one input. -/
def fnConfirmedBusinessCollisionsOnlyPairsWrong : ChangeSpec := { name := "fnConfirmedBusinessCollisionsOnlyPairs", fn := fun _ => fun
  | [d1, d2] => { results := [.lit (.bool false)], args := [d1, d2] }
  | _ => none }
def FnConfirmedBusinessCollisionsOnlyPairsWrongFalsely : Prop := fnConfirmedBusinessCollisionsOnlyPairsRow.holds Try.pinned (OpenSpec.ofChange fnConfirmedBusinessCollisionsOnlyPairsWrong)

end Rows
end Go.Proofs.Qxb6603376a
