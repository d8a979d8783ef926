/-
  No cell of these rows narrows 'for every input' (looked for: loops, veiled, ifaces, maps, wideKeys, modest, calm, conditions, laid).
  DERIVED. THE GIVEN ROWS OF THIS SEAT. 5 by the template 'for every input the law returns true; each argument reads behind the call as it read before'; 0 by the template 'total and deterministic' (their statements: Qxb6616476aTotals.lean).
  GIVEN WITH THE SEED: the statements are not yours to turn. If you find one false, say at which input.
  Laid BY PROGRAM, IN A SANDBOX (cutbox-rows.mjs): the forced cells as the released guide's own fill.sh prints them over the translation cec263b99cc7d58a… (all of the seat's roots in one cut). By AI agents, Wed Nov 11 2026. No macro, syntax, notation, axiom, sorry.
-/
import Derived.Test.Qxb6616476aChecked
import GoSem.Claim
import GoSem.ClaimJoined
import GoSem.ClaimMapViews
import Derived.JoinedTies
import Derived.KernelRfl
namespace Go.Proofs.Qxb6616476a
/- THE CELL 'sum', in the pinned program and in every row, IS THE sha256 OF THE DUMP (.gsa) THAT Qxb6616476aProg.lean LOADS. Nothing in Lean hashes anything: it is a label: what it is worth is what the hold of that sum in a sandbox is worth. -/
noncomputable def Try.pinned : Pinned := { name := "qxb6616476a", sum := "cec263b99cc7d58a202a91c576cd6c48f8869b6e4a6d048fa928c5be580bb0b8", checked := Try.checked }
namespace Rows
def none {H : Type} : Left H := { results := [], args := [] }

/-- 'zzlaws_root_b1.FnFeeByFractionsIsTheExactFeeRoundedUp': WHATEVER THE INPUT: true; the input reads as it did. -/
def fnFeeByFractionsIsTheExactFeeRoundedUpSpec : ChangeSpec := { name := "fnFeeByFractionsIsTheExactFeeRoundedUp", fn := fun _ => fun
  | [d1, d2, d3, d4, d5] => { results := [.lit (.bool true)], args := [d1, d2, d3, d4, d5] }
  | _ => none }
def fnFeeByFractionsIsTheExactFeeRoundedUpRow : OpenClaim := { program := "qxb6616476a", sum := "cec263b99cc7d58a202a91c576cd6c48f8869b6e4a6d048fa928c5be580bb0b8", func := "example.com/meterstone/meterstone/zzlaws_root_b1.FnFeeByFractionsIsTheExactFeeRoundedUp", spec := "fnFeeByFractionsIsTheExactFeeRoundedUp", inPlace := ["math/bits.Add64", "math/bits.Sub64"], named := ["math/bits.divideError", "math/bits.overflowError"], apart := false }
def FnFeeByFractionsIsTheExactFeeRoundedUpSaid : Prop := fnFeeByFractionsIsTheExactFeeRoundedUpRow.holds Try.pinned (OpenSpec.ofChange fnFeeByFractionsIsTheExactFeeRoundedUpSpec)

/-- ITS FALSE NEIGHBOUR: 'it returns false'. Refute it at one input. -/
def fnFeeByFractionsIsTheExactFeeRoundedUpWrong : ChangeSpec := { name := "fnFeeByFractionsIsTheExactFeeRoundedUp", fn := fun _ => fun
  | [d1, d2, d3, d4, d5] => { results := [.lit (.bool false)], args := [d1, d2, d3, d4, d5] }
  | _ => none }
def FnFeeByFractionsIsTheExactFeeRoundedUpWrongFalsely : Prop := fnFeeByFractionsIsTheExactFeeRoundedUpRow.holds Try.pinned (OpenSpec.ofChange fnFeeByFractionsIsTheExactFeeRoundedUpWrong)

/-- 'zzlaws_root_b1.FnFeeByFractionsDependsOnFeeUnitsPerLimitAlone': WHATEVER THE INPUT: true; the input reads as it did. -/
def fnFeeByFractionsDependsOnFeeUnitsPerLimitAloneSpec : ChangeSpec := { name := "fnFeeByFractionsDependsOnFeeUnitsPerLimitAlone", fn := fun _ => fun
  | [d1, d2, d3, d4, d5, d6] => { results := [.lit (.bool true)], args := [d1, d2, d3, d4, d5, d6] }
  | _ => none }
def fnFeeByFractionsDependsOnFeeUnitsPerLimitAloneRow : OpenClaim := { program := "qxb6616476a", sum := "cec263b99cc7d58a202a91c576cd6c48f8869b6e4a6d048fa928c5be580bb0b8", func := "example.com/meterstone/meterstone/zzlaws_root_b1.FnFeeByFractionsDependsOnFeeUnitsPerLimitAlone", spec := "fnFeeByFractionsDependsOnFeeUnitsPerLimitAlone", inPlace := ["math/bits.Add64", "math/bits.Sub64"], named := ["math/bits.divideError", "math/bits.overflowError"], apart := false }
def FnFeeByFractionsDependsOnFeeUnitsPerLimitAloneSaid : Prop := fnFeeByFractionsDependsOnFeeUnitsPerLimitAloneRow.holds Try.pinned (OpenSpec.ofChange fnFeeByFractionsDependsOnFeeUnitsPerLimitAloneSpec)

/-- ITS FALSE NEIGHBOUR: 'it returns false'. Refute it at one input. -/
def fnFeeByFractionsDependsOnFeeUnitsPerLimitAloneWrong : ChangeSpec := { name := "fnFeeByFractionsDependsOnFeeUnitsPerLimitAlone", fn := fun _ => fun
  | [d1, d2, d3, d4, d5, d6] => { results := [.lit (.bool false)], args := [d1, d2, d3, d4, d5, d6] }
  | _ => none }
def FnFeeByFractionsDependsOnFeeUnitsPerLimitAloneWrongFalsely : Prop := fnFeeByFractionsDependsOnFeeUnitsPerLimitAloneRow.holds Try.pinned (OpenSpec.ofChange fnFeeByFractionsDependsOnFeeUnitsPerLimitAloneWrong)

/-- 'zzlaws_root_b1.FnValidSeesOnlyTheRefusalAndTheThreeAmounts': WHATEVER THE INPUT: true; the input reads as it did. -/
def fnValidSeesOnlyTheRefusalAndTheThreeAmountsSpec : ChangeSpec := { name := "fnValidSeesOnlyTheRefusalAndTheThreeAmounts", fn := fun _ => fun
  | [d1, d2, d3, d4, d5, d6] => { results := [.lit (.bool true)], args := [d1, d2, d3, d4, d5, d6] }
  | _ => none }
def fnValidSeesOnlyTheRefusalAndTheThreeAmountsRow : OpenClaim := { program := "qxb6616476a", sum := "cec263b99cc7d58a202a91c576cd6c48f8869b6e4a6d048fa928c5be580bb0b8", func := "example.com/meterstone/meterstone/zzlaws_root_b1.FnValidSeesOnlyTheRefusalAndTheThreeAmounts", spec := "fnValidSeesOnlyTheRefusalAndTheThreeAmounts", apart := false }
def FnValidSeesOnlyTheRefusalAndTheThreeAmountsSaid : Prop := fnValidSeesOnlyTheRefusalAndTheThreeAmountsRow.holds Try.pinned (OpenSpec.ofChange fnValidSeesOnlyTheRefusalAndTheThreeAmountsSpec)

/-- ITS FALSE NEIGHBOUR: 'it returns false'. Refute it at one input. -/
def fnValidSeesOnlyTheRefusalAndTheThreeAmountsWrong : ChangeSpec := { name := "fnValidSeesOnlyTheRefusalAndTheThreeAmounts", fn := fun _ => fun
  | [d1, d2, d3, d4, d5, d6] => { results := [.lit (.bool false)], args := [d1, d2, d3, d4, d5, d6] }
  | _ => none }
def FnValidSeesOnlyTheRefusalAndTheThreeAmountsWrongFalsely : Prop := fnValidSeesOnlyTheRefusalAndTheThreeAmountsRow.holds Try.pinned (OpenSpec.ofChange fnValidSeesOnlyTheRefusalAndTheThreeAmountsWrong)

/-- 'zzlaws_root_b1.FnReasonListEndsAreTheRunningLengths': WHATEVER THE INPUT: true; the input reads as it did. -/
def fnReasonListEndsAreTheRunningLengthsSpec : ChangeSpec := { name := "fnReasonListEndsAreTheRunningLengths", fn := fun _ => fun
  | [d] => { results := [.lit (.bool true)], args := [d] }
  | _ => none }
def fnReasonListEndsAreTheRunningLengthsRow : OpenClaim := { program := "qxb6616476a", sum := "cec263b99cc7d58a202a91c576cd6c48f8869b6e4a6d048fa928c5be580bb0b8", func := "example.com/meterstone/meterstone/zzlaws_root_b1.FnReasonListEndsAreTheRunningLengths", spec := "fnReasonListEndsAreTheRunningLengths", apart := false }
def FnReasonListEndsAreTheRunningLengthsSaid : Prop := fnReasonListEndsAreTheRunningLengthsRow.holds Try.pinned (OpenSpec.ofChange fnReasonListEndsAreTheRunningLengthsSpec)

/-- ITS FALSE NEIGHBOUR: 'it returns false'. Refute it at one input. -/
def fnReasonListEndsAreTheRunningLengthsWrong : ChangeSpec := { name := "fnReasonListEndsAreTheRunningLengths", fn := fun _ => fun
  | [d] => { results := [.lit (.bool false)], args := [d] }
  | _ => none }
def FnReasonListEndsAreTheRunningLengthsWrongFalsely : Prop := fnReasonListEndsAreTheRunningLengthsRow.holds Try.pinned (OpenSpec.ofChange fnReasonListEndsAreTheRunningLengthsWrong)

/-- 'zzlaws_root_b1.FnReasonListEndsOfAJoinedScript': WHATEVER THE INPUT: true; the input reads as it did. -/
def fnReasonListEndsOfAJoinedScriptSpec : ChangeSpec := { name := "fnReasonListEndsOfAJoinedScript", fn := fun _ => fun
  | [d1, d2] => { results := [.lit (.bool true)], args := [d1, d2] }
  | _ => none }
def fnReasonListEndsOfAJoinedScriptRow : OpenClaim := { program := "qxb6616476a", sum := "cec263b99cc7d58a202a91c576cd6c48f8869b6e4a6d048fa928c5be580bb0b8", func := "example.com/meterstone/meterstone/zzlaws_root_b1.FnReasonListEndsOfAJoinedScript", spec := "fnReasonListEndsOfAJoinedScript", apart := false }
def FnReasonListEndsOfAJoinedScriptSaid : Prop := fnReasonListEndsOfAJoinedScriptRow.holds Try.pinned (OpenSpec.ofChange fnReasonListEndsOfAJoinedScriptSpec)

/-- ITS FALSE NEIGHBOUR: 'it returns false'. Refute it at one input. -/
def fnReasonListEndsOfAJoinedScriptWrong : ChangeSpec := { name := "fnReasonListEndsOfAJoinedScript", fn := fun _ => fun
  | [d1, d2] => { results := [.lit (.bool false)], args := [d1, d2] }
  | _ => none }
def FnReasonListEndsOfAJoinedScriptWrongFalsely : Prop := fnReasonListEndsOfAJoinedScriptRow.holds Try.pinned (OpenSpec.ofChange fnReasonListEndsOfAJoinedScriptWrong)

end Rows
end Go.Proofs.Qxb6616476a
