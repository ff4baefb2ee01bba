/-
  No cell of these rows narrows 'for every input' (looked for: loops, veiled, ifaces, maps, wideKeys, modest, calm, conditions, laid).
  DERIVED. THE GIVEN ROWS OF THIS SEAT. 6 by the template 'for every input the law returns true; each argument reads behind the call as it read before'; 0 by the template 'total and deterministic' (their statements: Qxb6617269aTotals.lean).
  GIVEN WITH THE SEED: the statements are not yours to turn. If you find one false, say at which input.
  Laid BY PROGRAM, IN A SANDBOX (cutbox-rows.mjs): the forced cells as the released guide's own fill.sh prints them over the translation 3e5e536d08c80cc1… (all of the seat's roots in one cut). By AI agents, Wed Nov 11 2026. No macro, syntax, notation, axiom, sorry.
-/
import Derived.Test.Qxb6617269aChecked
import GoSem.Claim
import GoSem.ClaimJoined
import GoSem.ClaimMapViews
import Derived.JoinedTies
import Derived.KernelRfl
namespace Go.Proofs.Qxb6617269a
/- THE CELL 'sum', in the pinned program and in every row, IS THE sha256 OF THE DUMP (.gsa) THAT Qxb6617269aProg.lean LOADS. Nothing in Lean hashes anything: it is a label: what it is worth is what the hold of that sum in a sandbox is worth. -/
noncomputable def Try.pinned : Pinned := { name := "qxb6617269a", sum := "3e5e536d08c80cc1bda641eaa8595e0b908b8bbdf5c13836bbc854393f476d55", checked := Try.checked }
namespace Rows
def none {H : Type} : Left H := { results := [], args := [] }

/-- 'zzlaws_internal_protocol_b1.FnCountsBeforeBySumThenFirstCount': WHATEVER THE INPUT: true; the input reads as it did. -/
def fnCountsBeforeBySumThenFirstCountSpec : ChangeSpec := { name := "fnCountsBeforeBySumThenFirstCount", fn := fun _ => fun
  | [d1, d2] => { results := [.lit (.bool true)], args := [d1, d2] }
  | _ => none }
def fnCountsBeforeBySumThenFirstCountRow : OpenClaim := { program := "qxb6617269a", sum := "3e5e536d08c80cc1bda641eaa8595e0b908b8bbdf5c13836bbc854393f476d55", func := "example.com/antecede/antecede/zzlaws_internal_protocol_b1.FnCountsBeforeBySumThenFirstCount", spec := "fnCountsBeforeBySumThenFirstCount", apart := false }
def FnCountsBeforeBySumThenFirstCountSaid : Prop := fnCountsBeforeBySumThenFirstCountRow.holds Try.pinned (OpenSpec.ofChange fnCountsBeforeBySumThenFirstCountSpec)

/-- ITS FALSE NEIGHBOUR: 'it returns false'. Refute it at one input. -/
def fnCountsBeforeBySumThenFirstCountWrong : ChangeSpec := { name := "fnCountsBeforeBySumThenFirstCount", fn := fun _ => fun
  | [d1, d2] => { results := [.lit (.bool false)], args := [d1, d2] }
  | _ => none }
def FnCountsBeforeBySumThenFirstCountWrongFalsely : Prop := fnCountsBeforeBySumThenFirstCountRow.holds Try.pinned (OpenSpec.ofChange fnCountsBeforeBySumThenFirstCountWrong)

/-- 'zzlaws_internal_protocol_b1.FnCountsBeforeKeepsCausalOrderUnderCommonGrowth': WHATEVER THE INPUT: true; the input reads as it did. -/
def fnCountsBeforeKeepsCausalOrderUnderCommonGrowthSpec : ChangeSpec := { name := "fnCountsBeforeKeepsCausalOrderUnderCommonGrowth", fn := fun _ => fun
  | [d1, d2, d3] => { results := [.lit (.bool true)], args := [d1, d2, d3] }
  | _ => none }
def fnCountsBeforeKeepsCausalOrderUnderCommonGrowthRow : OpenClaim := { program := "qxb6617269a", sum := "3e5e536d08c80cc1bda641eaa8595e0b908b8bbdf5c13836bbc854393f476d55", func := "example.com/antecede/antecede/zzlaws_internal_protocol_b1.FnCountsBeforeKeepsCausalOrderUnderCommonGrowth", spec := "fnCountsBeforeKeepsCausalOrderUnderCommonGrowth", apart := false }
def FnCountsBeforeKeepsCausalOrderUnderCommonGrowthSaid : Prop := fnCountsBeforeKeepsCausalOrderUnderCommonGrowthRow.holds Try.pinned (OpenSpec.ofChange fnCountsBeforeKeepsCausalOrderUnderCommonGrowthSpec)

/-- ITS FALSE NEIGHBOUR: 'it returns false'. Refute it at one input. -/
def fnCountsBeforeKeepsCausalOrderUnderCommonGrowthWrong : ChangeSpec := { name := "fnCountsBeforeKeepsCausalOrderUnderCommonGrowth", fn := fun _ => fun
  | [d1, d2, d3] => { results := [.lit (.bool false)], args := [d1, d2, d3] }
  | _ => none }
def FnCountsBeforeKeepsCausalOrderUnderCommonGrowthWrongFalsely : Prop := fnCountsBeforeKeepsCausalOrderUnderCommonGrowthRow.holds Try.pinned (OpenSpec.ofChange fnCountsBeforeKeepsCausalOrderUnderCommonGrowthWrong)

/-- 'zzlaws_internal_protocol_b1.FnWriteLogWithOfTwoSitesCommutes': WHATEVER THE INPUT: true; the input reads as it did. -/
def fnWriteLogWithOfTwoSitesCommutesSpec : ChangeSpec := { name := "fnWriteLogWithOfTwoSitesCommutes", fn := fun _ => fun
  | [d1, d2, d3, d4, d5, d6, d7, d8, d9, d10, d11, d12] => { results := [.lit (.bool true)], args := [d1, d2, d3, d4, d5, d6, d7, d8, d9, d10, d11, d12] }
  | _ => none }
def fnWriteLogWithOfTwoSitesCommutesRow : OpenClaim := { program := "qxb6617269a", sum := "3e5e536d08c80cc1bda641eaa8595e0b908b8bbdf5c13836bbc854393f476d55", func := "example.com/antecede/antecede/zzlaws_internal_protocol_b1.FnWriteLogWithOfTwoSitesCommutes", spec := "fnWriteLogWithOfTwoSitesCommutes", apart := false }
def FnWriteLogWithOfTwoSitesCommutesSaid : Prop := fnWriteLogWithOfTwoSitesCommutesRow.holds Try.pinned (OpenSpec.ofChange fnWriteLogWithOfTwoSitesCommutesSpec)

/-- ITS FALSE NEIGHBOUR: 'it returns false'. Refute it at one input. -/
def fnWriteLogWithOfTwoSitesCommutesWrong : ChangeSpec := { name := "fnWriteLogWithOfTwoSitesCommutes", fn := fun _ => fun
  | [d1, d2, d3, d4, d5, d6, d7, d8, d9, d10, d11, d12] => { results := [.lit (.bool false)], args := [d1, d2, d3, d4, d5, d6, d7, d8, d9, d10, d11, d12] }
  | _ => none }
def FnWriteLogWithOfTwoSitesCommutesWrongFalsely : Prop := fnWriteLogWithOfTwoSitesCommutesRow.holds Try.pinned (OpenSpec.ofChange fnWriteLogWithOfTwoSitesCommutesWrong)

/-- 'zzlaws_internal_protocol_b1.FnWriteLogWithForgetsASettledMarkOnceANewerComes': WHATEVER THE INPUT: true; the input reads as it did. -/
def fnWriteLogWithForgetsASettledMarkOnceANewerComesSpec : ChangeSpec := { name := "fnWriteLogWithForgetsASettledMarkOnceANewerComes", fn := fun _ => fun
  | [d1, d2, d3, d4, d5, d6, d7, d8, d9, d10] => { results := [.lit (.bool true)], args := [d1, d2, d3, d4, d5, d6, d7, d8, d9, d10] }
  | _ => none }
def fnWriteLogWithForgetsASettledMarkOnceANewerComesRow : OpenClaim := { program := "qxb6617269a", sum := "3e5e536d08c80cc1bda641eaa8595e0b908b8bbdf5c13836bbc854393f476d55", func := "example.com/antecede/antecede/zzlaws_internal_protocol_b1.FnWriteLogWithForgetsASettledMarkOnceANewerComes", spec := "fnWriteLogWithForgetsASettledMarkOnceANewerComes", apart := false }
def FnWriteLogWithForgetsASettledMarkOnceANewerComesSaid : Prop := fnWriteLogWithForgetsASettledMarkOnceANewerComesRow.holds Try.pinned (OpenSpec.ofChange fnWriteLogWithForgetsASettledMarkOnceANewerComesSpec)

/-- ITS FALSE NEIGHBOUR: 'it returns false'. Refute it at one input. -/
def fnWriteLogWithForgetsASettledMarkOnceANewerComesWrong : ChangeSpec := { name := "fnWriteLogWithForgetsASettledMarkOnceANewerComes", fn := fun _ => fun
  | [d1, d2, d3, d4, d5, d6, d7, d8, d9, d10] => { results := [.lit (.bool false)], args := [d1, d2, d3, d4, d5, d6, d7, d8, d9, d10] }
  | _ => none }
def FnWriteLogWithForgetsASettledMarkOnceANewerComesWrongFalsely : Prop := fnWriteLogWithForgetsASettledMarkOnceANewerComesRow.holds Try.pinned (OpenSpec.ofChange fnWriteLogWithForgetsASettledMarkOnceANewerComesWrong)

/-- 'zzlaws_internal_protocol_b1.FnWriteLogWithInsertsAndDropsTheSettledMark': WHATEVER THE INPUT: true; the input reads as it did. -/
def fnWriteLogWithInsertsAndDropsTheSettledMarkSpec : ChangeSpec := { name := "fnWriteLogWithInsertsAndDropsTheSettledMark", fn := fun _ => fun
  | [d1, d2, d3, d4, d5, d6, d7, d8] => { results := [.lit (.bool true)], args := [d1, d2, d3, d4, d5, d6, d7, d8] }
  | _ => none }
def fnWriteLogWithInsertsAndDropsTheSettledMarkRow : OpenClaim := { program := "qxb6617269a", sum := "3e5e536d08c80cc1bda641eaa8595e0b908b8bbdf5c13836bbc854393f476d55", func := "example.com/antecede/antecede/zzlaws_internal_protocol_b1.FnWriteLogWithInsertsAndDropsTheSettledMark", spec := "fnWriteLogWithInsertsAndDropsTheSettledMark", apart := false }
def FnWriteLogWithInsertsAndDropsTheSettledMarkSaid : Prop := fnWriteLogWithInsertsAndDropsTheSettledMarkRow.holds Try.pinned (OpenSpec.ofChange fnWriteLogWithInsertsAndDropsTheSettledMarkSpec)

/-- ITS FALSE NEIGHBOUR: 'it returns false'. Refute it at one input. -/
def fnWriteLogWithInsertsAndDropsTheSettledMarkWrong : ChangeSpec := { name := "fnWriteLogWithInsertsAndDropsTheSettledMark", fn := fun _ => fun
  | [d1, d2, d3, d4, d5, d6, d7, d8] => { results := [.lit (.bool false)], args := [d1, d2, d3, d4, d5, d6, d7, d8] }
  | _ => none }
def FnWriteLogWithInsertsAndDropsTheSettledMarkWrongFalsely : Prop := fnWriteLogWithInsertsAndDropsTheSettledMarkRow.holds Try.pinned (OpenSpec.ofChange fnWriteLogWithInsertsAndDropsTheSettledMarkWrong)

/-- 'zzlaws_internal_protocol_b1.FnPastRecordRaiseTwiceReachesTheGreater': WHATEVER THE INPUT: true; the input reads as it did. -/
def fnPastRecordRaiseTwiceReachesTheGreaterSpec : ChangeSpec := { name := "fnPastRecordRaiseTwiceReachesTheGreater", fn := fun _ => fun
  | [d1, d2, d3, d4, d5, d6, d7, d8] => { results := [.lit (.bool true)], args := [d1, d2, d3, d4, d5, d6, d7, d8] }
  | _ => none }
def fnPastRecordRaiseTwiceReachesTheGreaterRow : OpenClaim := { program := "qxb6617269a", sum := "3e5e536d08c80cc1bda641eaa8595e0b908b8bbdf5c13836bbc854393f476d55", func := "example.com/antecede/antecede/zzlaws_internal_protocol_b1.FnPastRecordRaiseTwiceReachesTheGreater", spec := "fnPastRecordRaiseTwiceReachesTheGreater", apart := false }
def FnPastRecordRaiseTwiceReachesTheGreaterSaid : Prop := fnPastRecordRaiseTwiceReachesTheGreaterRow.holds Try.pinned (OpenSpec.ofChange fnPastRecordRaiseTwiceReachesTheGreaterSpec)

/-- ITS FALSE NEIGHBOUR: 'it returns false'. Refute it at one input. -/
def fnPastRecordRaiseTwiceReachesTheGreaterWrong : ChangeSpec := { name := "fnPastRecordRaiseTwiceReachesTheGreater", fn := fun _ => fun
  | [d1, d2, d3, d4, d5, d6, d7, d8] => { results := [.lit (.bool false)], args := [d1, d2, d3, d4, d5, d6, d7, d8] }
  | _ => none }
def FnPastRecordRaiseTwiceReachesTheGreaterWrongFalsely : Prop := fnPastRecordRaiseTwiceReachesTheGreaterRow.holds Try.pinned (OpenSpec.ofChange fnPastRecordRaiseTwiceReachesTheGreaterWrong)

end Rows
end Go.Proofs.Qxb6617269a
