/-
  No cell of these rows narrows 'for every input' (looked for: loops, veiled, ifaces, maps, wideKeys, modest, calm, conditions, laid).
  DERIVED. THE GIVEN ROWS OF THIS SEAT. 5 by the template 'for every input the law returns true; each argument reads behind the call as it read before'; 0 by the template 'total and deterministic' (their statements: Qxb6607687aTotals.lean).
  GIVEN WITH THE SEED: the statements are not yours to turn. If you find one false, say at which input.
  Laid BY PROGRAM, IN A SANDBOX (cutbox-rows.mjs): the forced cells as the released guide's own fill.sh prints them over the translation a9ba6968b1c23fa2… (all of the seat's roots in one cut). By AI agents, Wed Nov 11 2026. No macro, syntax, notation, axiom, sorry.
-/
import Derived.Test.Qxb6607687aChecked
import GoSem.Claim
import GoSem.ClaimJoined
import GoSem.ClaimMapViews
import Derived.JoinedTies
import Derived.KernelRfl
namespace Go.Proofs.Qxb6607687a
/- THE CELL 'sum', in the pinned program and in every row, IS THE sha256 OF THE DUMP (.gsa) THAT Qxb6607687aProg.lean LOADS. Nothing in Lean hashes anything: it is a label: what it is worth is what the hold of that sum in a sandbox is worth. -/
noncomputable def Try.pinned : Pinned := { name := "qxb6607687a", sum := "a9ba6968b1c23fa2dd28f7cd603efdf60daa320e0c537c57b3630babffb3c69a", checked := Try.checked }
namespace Rows
def none {H : Type} : Left H := { results := [], args := [] }

/-- 'zzlaws_internal_msdp_b1.FnCompareSourceGroupsIsGroupThenSourceAsNumbers': WHATEVER THE INPUT: true; the input reads as it did. -/
def fnCompareSourceGroupsIsGroupThenSourceAsNumbersSpec : ChangeSpec := { name := "fnCompareSourceGroupsIsGroupThenSourceAsNumbers", fn := fun _ => fun
  | [d1, d2, d3, d4] => { results := [.lit (.bool true)], args := [d1, d2, d3, d4] }
  | _ => none }
def fnCompareSourceGroupsIsGroupThenSourceAsNumbersRow : OpenClaim := { program := "qxb6607687a", sum := "a9ba6968b1c23fa2dd28f7cd603efdf60daa320e0c537c57b3630babffb3c69a", func := "example.com/tributary/tributary/zzlaws_internal_msdp_b1.FnCompareSourceGroupsIsGroupThenSourceAsNumbers", spec := "fnCompareSourceGroupsIsGroupThenSourceAsNumbers", plainKeys := false, apart := false }
def FnCompareSourceGroupsIsGroupThenSourceAsNumbersSaid : Prop := fnCompareSourceGroupsIsGroupThenSourceAsNumbersRow.holds Try.pinned (OpenSpec.ofChange fnCompareSourceGroupsIsGroupThenSourceAsNumbersSpec)

/-- ITS FALSE NEIGHBOUR: 'it returns false'. Refute it at one input. -/
def fnCompareSourceGroupsIsGroupThenSourceAsNumbersWrong : ChangeSpec := { name := "fnCompareSourceGroupsIsGroupThenSourceAsNumbers", fn := fun _ => fun
  | [d1, d2, d3, d4] => { results := [.lit (.bool false)], args := [d1, d2, d3, d4] }
  | _ => none }
def FnCompareSourceGroupsIsGroupThenSourceAsNumbersWrongFalsely : Prop := fnCompareSourceGroupsIsGroupThenSourceAsNumbersRow.holds Try.pinned (OpenSpec.ofChange fnCompareSourceGroupsIsGroupThenSourceAsNumbersWrong)

/-- 'zzlaws_internal_msdp_b1.FnCompareSourceGroupsIsATotalOrderDecidedByGroupFirst': WHATEVER THE INPUT: true; the input reads as it did. -/
def fnCompareSourceGroupsIsATotalOrderDecidedByGroupFirstSpec : ChangeSpec := { name := "fnCompareSourceGroupsIsATotalOrderDecidedByGroupFirst", fn := fun _ => fun
  | [d1, d2, d3, d4, d5, d6] => { results := [.lit (.bool true)], args := [d1, d2, d3, d4, d5, d6] }
  | _ => none }
def fnCompareSourceGroupsIsATotalOrderDecidedByGroupFirstRow : OpenClaim := { program := "qxb6607687a", sum := "a9ba6968b1c23fa2dd28f7cd603efdf60daa320e0c537c57b3630babffb3c69a", func := "example.com/tributary/tributary/zzlaws_internal_msdp_b1.FnCompareSourceGroupsIsATotalOrderDecidedByGroupFirst", spec := "fnCompareSourceGroupsIsATotalOrderDecidedByGroupFirst", plainKeys := false, apart := false }
def FnCompareSourceGroupsIsATotalOrderDecidedByGroupFirstSaid : Prop := fnCompareSourceGroupsIsATotalOrderDecidedByGroupFirstRow.holds Try.pinned (OpenSpec.ofChange fnCompareSourceGroupsIsATotalOrderDecidedByGroupFirstSpec)

/-- ITS FALSE NEIGHBOUR: 'it returns false'. Refute it at one input. -/
def fnCompareSourceGroupsIsATotalOrderDecidedByGroupFirstWrong : ChangeSpec := { name := "fnCompareSourceGroupsIsATotalOrderDecidedByGroupFirst", fn := fun _ => fun
  | [d1, d2, d3, d4, d5, d6] => { results := [.lit (.bool false)], args := [d1, d2, d3, d4, d5, d6] }
  | _ => none }
def FnCompareSourceGroupsIsATotalOrderDecidedByGroupFirstWrongFalsely : Prop := fnCompareSourceGroupsIsATotalOrderDecidedByGroupFirstRow.holds Try.pinned (OpenSpec.ofChange fnCompareSourceGroupsIsATotalOrderDecidedByGroupFirstWrong)

/-- 'zzlaws_internal_msdp_b1.FnHoldsForExactlyThePeriodAfterRecording': WHATEVER THE INPUT: true; the input reads as it did. -/
def fnHoldsForExactlyThePeriodAfterRecordingSpec : ChangeSpec := { name := "fnHoldsForExactlyThePeriodAfterRecording", fn := fun _ => fun
  | [d1, d2, d3, d4] => { results := [.lit (.bool true)], args := [d1, d2, d3, d4] }
  | _ => none }
def fnHoldsForExactlyThePeriodAfterRecordingRow : OpenClaim := { program := "qxb6607687a", sum := "a9ba6968b1c23fa2dd28f7cd603efdf60daa320e0c537c57b3630babffb3c69a", func := "example.com/tributary/tributary/zzlaws_internal_msdp_b1.FnHoldsForExactlyThePeriodAfterRecording", spec := "fnHoldsForExactlyThePeriodAfterRecording", plainKeys := false, apart := false }
def FnHoldsForExactlyThePeriodAfterRecordingSaid : Prop := fnHoldsForExactlyThePeriodAfterRecordingRow.holds Try.pinned (OpenSpec.ofChange fnHoldsForExactlyThePeriodAfterRecordingSpec)

/-- ITS FALSE NEIGHBOUR: 'it returns false'. Refute it at one input. -/
def fnHoldsForExactlyThePeriodAfterRecordingWrong : ChangeSpec := { name := "fnHoldsForExactlyThePeriodAfterRecording", fn := fun _ => fun
  | [d1, d2, d3, d4] => { results := [.lit (.bool false)], args := [d1, d2, d3, d4] }
  | _ => none }
def FnHoldsForExactlyThePeriodAfterRecordingWrongFalsely : Prop := fnHoldsForExactlyThePeriodAfterRecordingRow.holds Try.pinned (OpenSpec.ofChange fnHoldsForExactlyThePeriodAfterRecordingWrong)

/-- 'zzlaws_internal_msdp_b1.FnActiveAtIsTheLiveSourcesByGroupThenSource': WHATEVER THE INPUT: true; the input reads as it did. -/
def fnActiveAtIsTheLiveSourcesByGroupThenSourceSpec : ChangeSpec := { name := "fnActiveAtIsTheLiveSourcesByGroupThenSource", fn := fun _ => fun
  | [d1, d2, d3, d4, d5, d6] => { results := [.lit (.bool true)], args := [d1, d2, d3, d4, d5, d6] }
  | _ => none }
def fnActiveAtIsTheLiveSourcesByGroupThenSourceRow : OpenClaim := { program := "qxb6607687a", sum := "a9ba6968b1c23fa2dd28f7cd603efdf60daa320e0c537c57b3630babffb3c69a", func := "example.com/tributary/tributary/zzlaws_internal_msdp_b1.FnActiveAtIsTheLiveSourcesByGroupThenSource", spec := "fnActiveAtIsTheLiveSourcesByGroupThenSource", inPlace := ["(*internal/sync.Mutex).Lock", "internal/race.Disable", "sync/atomic.CompareAndSwapInt32", "internal/race.Enable", "internal/race.Acquire", "(*internal/sync.Mutex).lockSlow", "internal/sync.runtime_canSpin", "internal/sync.runtime_doSpin", "internal/sync.throw", "internal/sync.runtime_nanotime", "internal/sync.runtime_SemacquireMutex", "sync/atomic.AddInt32", "(*internal/sync.Mutex).Unlock", "internal/race.ReleaseMerge", "(*internal/sync.Mutex).unlockSlow", "internal/sync.fatal", "internal/sync.runtime_Semrelease"], unfollowed := true, recurses := true, plainKeys := false, apart := false }
def FnActiveAtIsTheLiveSourcesByGroupThenSourceSaid : Prop := fnActiveAtIsTheLiveSourcesByGroupThenSourceRow.holds Try.pinned (OpenSpec.ofChange fnActiveAtIsTheLiveSourcesByGroupThenSourceSpec)

/-- ITS FALSE NEIGHBOUR: 'it returns false'. Refute it at one input. -/
def fnActiveAtIsTheLiveSourcesByGroupThenSourceWrong : ChangeSpec := { name := "fnActiveAtIsTheLiveSourcesByGroupThenSource", fn := fun _ => fun
  | [d1, d2, d3, d4, d5, d6] => { results := [.lit (.bool false)], args := [d1, d2, d3, d4, d5, d6] }
  | _ => none }
def FnActiveAtIsTheLiveSourcesByGroupThenSourceWrongFalsely : Prop := fnActiveAtIsTheLiveSourcesByGroupThenSourceRow.holds Try.pinned (OpenSpec.ofChange fnActiveAtIsTheLiveSourcesByGroupThenSourceWrong)

/-- 'zzlaws_internal_msdp_b1.FnActiveAtForgetsTheSilentKeepsBatchesAndRepeats': WHATEVER THE INPUT: true; the input reads as it did. -/
def fnActiveAtForgetsTheSilentKeepsBatchesAndRepeatsSpec : ChangeSpec := { name := "fnActiveAtForgetsTheSilentKeepsBatchesAndRepeats", fn := fun _ => fun
  | [d1, d2, d3, d4, d5, d6, d7] => { results := [.lit (.bool true)], args := [d1, d2, d3, d4, d5, d6, d7] }
  | _ => none }
def fnActiveAtForgetsTheSilentKeepsBatchesAndRepeatsRow : OpenClaim := { program := "qxb6607687a", sum := "a9ba6968b1c23fa2dd28f7cd603efdf60daa320e0c537c57b3630babffb3c69a", func := "example.com/tributary/tributary/zzlaws_internal_msdp_b1.FnActiveAtForgetsTheSilentKeepsBatchesAndRepeats", spec := "fnActiveAtForgetsTheSilentKeepsBatchesAndRepeats", inPlace := ["(*internal/sync.Mutex).Lock", "internal/race.Disable", "sync/atomic.CompareAndSwapInt32", "internal/race.Enable", "internal/race.Acquire", "(*internal/sync.Mutex).lockSlow", "internal/sync.runtime_canSpin", "internal/sync.runtime_doSpin", "internal/sync.throw", "internal/sync.runtime_nanotime", "internal/sync.runtime_SemacquireMutex", "sync/atomic.AddInt32", "(*internal/sync.Mutex).Unlock", "internal/race.ReleaseMerge", "(*internal/sync.Mutex).unlockSlow", "internal/sync.fatal", "internal/sync.runtime_Semrelease"], unfollowed := true, recurses := true, plainKeys := false, apart := false }
def FnActiveAtForgetsTheSilentKeepsBatchesAndRepeatsSaid : Prop := fnActiveAtForgetsTheSilentKeepsBatchesAndRepeatsRow.holds Try.pinned (OpenSpec.ofChange fnActiveAtForgetsTheSilentKeepsBatchesAndRepeatsSpec)

/-- ITS FALSE NEIGHBOUR: 'it returns false'. Refute it at one input. -/
def fnActiveAtForgetsTheSilentKeepsBatchesAndRepeatsWrong : ChangeSpec := { name := "fnActiveAtForgetsTheSilentKeepsBatchesAndRepeats", fn := fun _ => fun
  | [d1, d2, d3, d4, d5, d6, d7] => { results := [.lit (.bool false)], args := [d1, d2, d3, d4, d5, d6, d7] }
  | _ => none }
def FnActiveAtForgetsTheSilentKeepsBatchesAndRepeatsWrongFalsely : Prop := fnActiveAtForgetsTheSilentKeepsBatchesAndRepeatsRow.holds Try.pinned (OpenSpec.ofChange fnActiveAtForgetsTheSilentKeepsBatchesAndRepeatsWrong)

end Rows
end Go.Proofs.Qxb6607687a
