/-
  No cell of these rows narrows 'for every input' (looked for: loops, veiled, ifaces, maps, wideKeys, modest, calm, conditions, laid).
  DERIVED. THE GIVEN ROWS OF THIS SEAT. 5 by the template 'for every input the law returns true; each argument reads behind the call as it read before'; 0 by the template 'total and deterministic' (their statements: Qxb6614239aTotals.lean).
  GIVEN WITH THE SEED: the statements are not yours to turn. If you find one false, say at which input.
  Laid BY PROGRAM, IN A SANDBOX (cutbox-rows.mjs): the forced cells as the released guide's own fill.sh prints them over the translation 9f65390997018b5c… (all of the seat's roots in one cut). By AI agents, Wed Nov 11 2026. No macro, syntax, notation, axiom, sorry.
-/
import Derived.Test.Qxb6614239aChecked
import GoSem.Claim
import GoSem.ClaimJoined
import GoSem.ClaimMapViews
import Derived.JoinedTies
import Derived.KernelRfl
namespace Go.Proofs.Qxb6614239a
/- THE CELL 'sum', in the pinned program and in every row, IS THE sha256 OF THE DUMP (.gsa) THAT Qxb6614239aProg.lean LOADS. Nothing in Lean hashes anything: it is a label: what it is worth is what the hold of that sum in a sandbox is worth. -/
noncomputable def Try.pinned : Pinned := { name := "qxb6614239a", sum := "9f65390997018b5c2302f03ee9d43c72f44b5b72d328827a6ccc0e5181c8307f", checked := Try.checked }
namespace Rows
def none {H : Type} : Left H := { results := [], args := [] }

/-- 'zzlaws_internal_store_b1.FnRecordSizeSpansLeadBeforeOffToSizeAfter': WHATEVER THE INPUT: true; the input reads as it did. -/
def fnRecordSizeSpansLeadBeforeOffToSizeAfterSpec : ChangeSpec := { name := "fnRecordSizeSpansLeadBeforeOffToSizeAfter", fn := fun _ => fun
  | [d1, d2, d3, d4, d5] => { results := [.lit (.bool true)], args := [d1, d2, d3, d4, d5] }
  | _ => none }
def fnRecordSizeSpansLeadBeforeOffToSizeAfterRow : OpenClaim := { program := "qxb6614239a", sum := "9f65390997018b5c2302f03ee9d43c72f44b5b72d328827a6ccc0e5181c8307f", func := "example.com/onceward/onceward/zzlaws_internal_store_b1.FnRecordSizeSpansLeadBeforeOffToSizeAfter", spec := "fnRecordSizeSpansLeadBeforeOffToSizeAfter", plainKeys := false, apart := false }
def FnRecordSizeSpansLeadBeforeOffToSizeAfterSaid : Prop := fnRecordSizeSpansLeadBeforeOffToSizeAfterRow.holds Try.pinned (OpenSpec.ofChange fnRecordSizeSpansLeadBeforeOffToSizeAfterSpec)

/-- ITS FALSE NEIGHBOUR: 'it returns false'. Refute it at one input. -/
def fnRecordSizeSpansLeadBeforeOffToSizeAfterWrong : ChangeSpec := { name := "fnRecordSizeSpansLeadBeforeOffToSizeAfter", fn := fun _ => fun
  | [d1, d2, d3, d4, d5] => { results := [.lit (.bool false)], args := [d1, d2, d3, d4, d5] }
  | _ => none }
def FnRecordSizeSpansLeadBeforeOffToSizeAfterWrongFalsely : Prop := fnRecordSizeSpansLeadBeforeOffToSizeAfterRow.holds Try.pinned (OpenSpec.ofChange fnRecordSizeSpansLeadBeforeOffToSizeAfterWrong)

/-- 'zzlaws_internal_store_b1.FnHoldCountsOnlyOnItsOwnFile': WHATEVER THE INPUT: true; the input reads as it did. -/
def fnHoldCountsOnlyOnItsOwnFileSpec : ChangeSpec := { name := "fnHoldCountsOnlyOnItsOwnFile", fn := fun _ => fun
  | [d1, d2, d3] => { results := [.lit (.bool true)], args := [d1, d2, d3] }
  | _ => none }
def fnHoldCountsOnlyOnItsOwnFileRow : OpenClaim := { program := "qxb6614239a", sum := "9f65390997018b5c2302f03ee9d43c72f44b5b72d328827a6ccc0e5181c8307f", func := "example.com/onceward/onceward/zzlaws_internal_store_b1.FnHoldCountsOnlyOnItsOwnFile", spec := "fnHoldCountsOnlyOnItsOwnFile", inPlace := ["(*internal/sync.Mutex).Lock", "internal/race.Disable", "sync/atomic.CompareAndSwapInt32", "internal/race.Enable", "internal/race.Acquire", "(*internal/sync.Mutex).lockSlow", "internal/sync.runtime_canSpin", "internal/sync.runtime_doSpin", "internal/sync.throw", "internal/sync.runtime_nanotime", "internal/sync.runtime_SemacquireMutex", "sync/atomic.AddInt32", "(*internal/sync.Mutex).Unlock", "internal/race.ReleaseMerge", "(*internal/sync.Mutex).unlockSlow", "internal/sync.fatal", "internal/sync.runtime_Semrelease"], plainKeys := false, apart := false }
def FnHoldCountsOnlyOnItsOwnFileSaid : Prop := fnHoldCountsOnlyOnItsOwnFileRow.holds Try.pinned (OpenSpec.ofChange fnHoldCountsOnlyOnItsOwnFileSpec)

/-- ITS FALSE NEIGHBOUR: 'it returns false'. Refute it at one input. -/
def fnHoldCountsOnlyOnItsOwnFileWrong : ChangeSpec := { name := "fnHoldCountsOnlyOnItsOwnFile", fn := fun _ => fun
  | [d1, d2, d3] => { results := [.lit (.bool false)], args := [d1, d2, d3] }
  | _ => none }
def FnHoldCountsOnlyOnItsOwnFileWrongFalsely : Prop := fnHoldCountsOnlyOnItsOwnFileRow.holds Try.pinned (OpenSpec.ofChange fnHoldCountsOnlyOnItsOwnFileWrong)

/-- 'zzlaws_internal_store_b1.FnUnpendLeavesJustThePendingNeverUnpended': WHATEVER THE INPUT: true; the input reads as it did. -/
def fnUnpendLeavesJustThePendingNeverUnpendedSpec : ChangeSpec := { name := "fnUnpendLeavesJustThePendingNeverUnpended", fn := fun _ => fun
  | [d1, d2] => { results := [.lit (.bool true)], args := [d1, d2] }
  | _ => none }
def fnUnpendLeavesJustThePendingNeverUnpendedRow : OpenClaim := { program := "qxb6614239a", sum := "9f65390997018b5c2302f03ee9d43c72f44b5b72d328827a6ccc0e5181c8307f", func := "example.com/onceward/onceward/zzlaws_internal_store_b1.FnUnpendLeavesJustThePendingNeverUnpended", spec := "fnUnpendLeavesJustThePendingNeverUnpended", plainKeys := false, apart := false }
def FnUnpendLeavesJustThePendingNeverUnpendedSaid : Prop := fnUnpendLeavesJustThePendingNeverUnpendedRow.holds Try.pinned (OpenSpec.ofChange fnUnpendLeavesJustThePendingNeverUnpendedSpec)

/-- ITS FALSE NEIGHBOUR: 'it returns false'. Refute it at one input. -/
def fnUnpendLeavesJustThePendingNeverUnpendedWrong : ChangeSpec := { name := "fnUnpendLeavesJustThePendingNeverUnpended", fn := fun _ => fun
  | [d1, d2] => { results := [.lit (.bool false)], args := [d1, d2] }
  | _ => none }
def FnUnpendLeavesJustThePendingNeverUnpendedWrongFalsely : Prop := fnUnpendLeavesJustThePendingNeverUnpendedRow.holds Try.pinned (OpenSpec.ofChange fnUnpendLeavesJustThePendingNeverUnpendedWrong)

/-- 'zzlaws_internal_store_b1.FnSpansCoverIffEachSpanStartsWhereThoseBeforeReach': WHATEVER THE INPUT: true; the input reads as it did. -/
def fnSpansCoverIffEachSpanStartsWhereThoseBeforeReachSpec : ChangeSpec := { name := "fnSpansCoverIffEachSpanStartsWhereThoseBeforeReach", fn := fun _ => fun
  | [d1, d2, d3, d4] => { results := [.lit (.bool true)], args := [d1, d2, d3, d4] }
  | _ => none }
def fnSpansCoverIffEachSpanStartsWhereThoseBeforeReachRow : OpenClaim := { program := "qxb6614239a", sum := "9f65390997018b5c2302f03ee9d43c72f44b5b72d328827a6ccc0e5181c8307f", func := "example.com/onceward/onceward/zzlaws_internal_store_b1.FnSpansCoverIffEachSpanStartsWhereThoseBeforeReach", spec := "fnSpansCoverIffEachSpanStartsWhereThoseBeforeReach", plainKeys := false, apart := false }
def FnSpansCoverIffEachSpanStartsWhereThoseBeforeReachSaid : Prop := fnSpansCoverIffEachSpanStartsWhereThoseBeforeReachRow.holds Try.pinned (OpenSpec.ofChange fnSpansCoverIffEachSpanStartsWhereThoseBeforeReachSpec)

/-- ITS FALSE NEIGHBOUR: 'it returns false'. Refute it at one input. -/
def fnSpansCoverIffEachSpanStartsWhereThoseBeforeReachWrong : ChangeSpec := { name := "fnSpansCoverIffEachSpanStartsWhereThoseBeforeReach", fn := fun _ => fun
  | [d1, d2, d3, d4] => { results := [.lit (.bool false)], args := [d1, d2, d3, d4] }
  | _ => none }
def FnSpansCoverIffEachSpanStartsWhereThoseBeforeReachWrongFalsely : Prop := fnSpansCoverIffEachSpanStartsWhereThoseBeforeReachRow.holds Try.pinned (OpenSpec.ofChange fnSpansCoverIffEachSpanStartsWhereThoseBeforeReachWrong)

/-- 'zzlaws_internal_store_b1.FnSpansCoverKeepsItsAnswerWhenASpanIsCut': WHATEVER THE INPUT: true; the input reads as it did. -/
def fnSpansCoverKeepsItsAnswerWhenASpanIsCutSpec : ChangeSpec := { name := "fnSpansCoverKeepsItsAnswerWhenASpanIsCut", fn := fun _ => fun
  | [d1, d2, d3, d4, d5, d6, d7] => { results := [.lit (.bool true)], args := [d1, d2, d3, d4, d5, d6, d7] }
  | _ => none }
def fnSpansCoverKeepsItsAnswerWhenASpanIsCutRow : OpenClaim := { program := "qxb6614239a", sum := "9f65390997018b5c2302f03ee9d43c72f44b5b72d328827a6ccc0e5181c8307f", func := "example.com/onceward/onceward/zzlaws_internal_store_b1.FnSpansCoverKeepsItsAnswerWhenASpanIsCut", spec := "fnSpansCoverKeepsItsAnswerWhenASpanIsCut", plainKeys := false, apart := false }
def FnSpansCoverKeepsItsAnswerWhenASpanIsCutSaid : Prop := fnSpansCoverKeepsItsAnswerWhenASpanIsCutRow.holds Try.pinned (OpenSpec.ofChange fnSpansCoverKeepsItsAnswerWhenASpanIsCutSpec)

/-- ITS FALSE NEIGHBOUR: 'it returns false'. Refute it at one input. -/
def fnSpansCoverKeepsItsAnswerWhenASpanIsCutWrong : ChangeSpec := { name := "fnSpansCoverKeepsItsAnswerWhenASpanIsCut", fn := fun _ => fun
  | [d1, d2, d3, d4, d5, d6, d7] => { results := [.lit (.bool false)], args := [d1, d2, d3, d4, d5, d6, d7] }
  | _ => none }
def FnSpansCoverKeepsItsAnswerWhenASpanIsCutWrongFalsely : Prop := fnSpansCoverKeepsItsAnswerWhenASpanIsCutRow.holds Try.pinned (OpenSpec.ofChange fnSpansCoverKeepsItsAnswerWhenASpanIsCutWrong)

end Rows
end Go.Proofs.Qxb6614239a
