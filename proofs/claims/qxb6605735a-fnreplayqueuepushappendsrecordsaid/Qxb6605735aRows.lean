/-
  No cell of these rows narrows 'for every input' (looked for: loops, veiled, ifaces, maps, wideKeys, modest, calm, conditions, laid).
  DERIVED. THE GIVEN ROWS OF THIS SEAT. 4 by the template 'for every input the law returns true; each argument reads behind the call as it read before'; 0 by the template 'total and deterministic' (their statements: Qxb6605735aTotals.lean).
  GIVEN WITH THE SEED: the statements are not yours to turn. If you find one false, say at which input.
  Laid BY PROGRAM, IN A SANDBOX (cutbox-rows.mjs): the forced cells as the released guide's own fill.sh prints them over the translation 4b8bfc5ba3d3053a… (all of the seat's roots in one cut). By AI agents, Wed Nov 11 2026. No macro, syntax, notation, axiom, sorry.
-/
import Derived.Test.Qxb6605735aChecked
import GoSem.Claim
import GoSem.ClaimJoined
import GoSem.ClaimMapViews
import Derived.JoinedTies
import Derived.KernelRfl
namespace Go.Proofs.Qxb6605735a
/- THE CELL 'sum', in the pinned program and in every row, IS THE sha256 OF THE DUMP (.gsa) THAT Qxb6605735aProg.lean LOADS. Nothing in Lean hashes anything: it is a label: what it is worth is what the hold of that sum in a sandbox is worth. -/
noncomputable def Try.pinned : Pinned := { name := "qxb6605735a", sum := "4b8bfc5ba3d3053aa58e07b16a5addc257ab2615f26699c29355fad6b3b4a510", checked := Try.checked }
namespace Rows
def none {H : Type} : Left H := { results := [], args := [] }

/-- 'zzlaws_root_b1.FnCompareSigV4ParamsByteOrder': WHATEVER THE INPUT: true; the input reads as it did. -/
def fnCompareSigV4ParamsByteOrderSpec : ChangeSpec := { name := "fnCompareSigV4ParamsByteOrder", fn := fun _ => fun
  | [d1, d2, d3, d4, d5, d6] => { results := [.lit (.bool true)], args := [d1, d2, d3, d4, d5, d6] }
  | _ => none }
def fnCompareSigV4ParamsByteOrderRow : OpenClaim := { program := "qxb6605735a", sum := "4b8bfc5ba3d3053aa58e07b16a5addc257ab2615f26699c29355fad6b3b4a510", func := "example.com/rigorous-signer/rigorous-signer/zzlaws_root_b1.FnCompareSigV4ParamsByteOrder", spec := "fnCompareSigV4ParamsByteOrder", inPlace := ["internal/bytealg.abigen_runtime_cmpstring"], apart := false }
def FnCompareSigV4ParamsByteOrderSaid : Prop := fnCompareSigV4ParamsByteOrderRow.holds Try.pinned (OpenSpec.ofChange fnCompareSigV4ParamsByteOrderSpec)

/-- ITS FALSE NEIGHBOUR: 'it returns false'. Refute it at one input. -/
def fnCompareSigV4ParamsByteOrderWrong : ChangeSpec := { name := "fnCompareSigV4ParamsByteOrder", fn := fun _ => fun
  | [d1, d2, d3, d4, d5, d6] => { results := [.lit (.bool false)], args := [d1, d2, d3, d4, d5, d6] }
  | _ => none }
def FnCompareSigV4ParamsByteOrderWrongFalsely : Prop := fnCompareSigV4ParamsByteOrderRow.holds Try.pinned (OpenSpec.ofChange fnCompareSigV4ParamsByteOrderWrong)

/-- 'zzlaws_root_b1.FnCompareSigV4ParamsIsTotalOrder': WHATEVER THE INPUT: true; the input reads as it did. -/
def fnCompareSigV4ParamsIsTotalOrderSpec : ChangeSpec := { name := "fnCompareSigV4ParamsIsTotalOrder", fn := fun _ => fun
  | [d1, d2, d3, d4, d5, d6, d7, d8, d9] => { results := [.lit (.bool true)], args := [d1, d2, d3, d4, d5, d6, d7, d8, d9] }
  | _ => none }
def fnCompareSigV4ParamsIsTotalOrderRow : OpenClaim := { program := "qxb6605735a", sum := "4b8bfc5ba3d3053aa58e07b16a5addc257ab2615f26699c29355fad6b3b4a510", func := "example.com/rigorous-signer/rigorous-signer/zzlaws_root_b1.FnCompareSigV4ParamsIsTotalOrder", spec := "fnCompareSigV4ParamsIsTotalOrder", inPlace := ["internal/bytealg.abigen_runtime_cmpstring"], apart := false }
def FnCompareSigV4ParamsIsTotalOrderSaid : Prop := fnCompareSigV4ParamsIsTotalOrderRow.holds Try.pinned (OpenSpec.ofChange fnCompareSigV4ParamsIsTotalOrderSpec)

/-- ITS FALSE NEIGHBOUR: 'it returns false'. Refute it at one input. -/
def fnCompareSigV4ParamsIsTotalOrderWrong : ChangeSpec := { name := "fnCompareSigV4ParamsIsTotalOrder", fn := fun _ => fun
  | [d1, d2, d3, d4, d5, d6, d7, d8, d9] => { results := [.lit (.bool false)], args := [d1, d2, d3, d4, d5, d6, d7, d8, d9] }
  | _ => none }
def FnCompareSigV4ParamsIsTotalOrderWrongFalsely : Prop := fnCompareSigV4ParamsIsTotalOrderRow.holds Try.pinned (OpenSpec.ofChange fnCompareSigV4ParamsIsTotalOrderWrong)

/-- 'zzlaws_root_b1.FnReplayQueuePushAppendsRecord': WHATEVER THE INPUT: true; the input reads as it did. -/
def fnReplayQueuePushAppendsRecordSpec : ChangeSpec := { name := "fnReplayQueuePushAppendsRecord", fn := fun _ => fun
  | [d1, d2, d3, d4] => { results := [.lit (.bool true)], args := [d1, d2, d3, d4] }
  | _ => none }
def fnReplayQueuePushAppendsRecordRow : OpenClaim := { program := "qxb6605735a", sum := "4b8bfc5ba3d3053aa58e07b16a5addc257ab2615f26699c29355fad6b3b4a510", func := "example.com/rigorous-signer/rigorous-signer/zzlaws_root_b1.FnReplayQueuePushAppendsRecord", spec := "fnReplayQueuePushAppendsRecord", apart := false }
def FnReplayQueuePushAppendsRecordSaid : Prop := fnReplayQueuePushAppendsRecordRow.holds Try.pinned (OpenSpec.ofChange fnReplayQueuePushAppendsRecordSpec)

/-- ITS FALSE NEIGHBOUR: 'it returns false'. Refute it at one input. -/
def fnReplayQueuePushAppendsRecordWrong : ChangeSpec := { name := "fnReplayQueuePushAppendsRecord", fn := fun _ => fun
  | [d1, d2, d3, d4] => { results := [.lit (.bool false)], args := [d1, d2, d3, d4] }
  | _ => none }
def FnReplayQueuePushAppendsRecordWrongFalsely : Prop := fnReplayQueuePushAppendsRecordRow.holds Try.pinned (OpenSpec.ofChange fnReplayQueuePushAppendsRecordWrong)

/-- 'zzlaws_root_b1.FnReplayQueuePushScriptReadsBack': WHATEVER THE INPUT: true; the input reads as it did. -/
def fnReplayQueuePushScriptReadsBackSpec : ChangeSpec := { name := "fnReplayQueuePushScriptReadsBack", fn := fun _ => fun
  | [d] => { results := [.lit (.bool true)], args := [d] }
  | _ => none }
def fnReplayQueuePushScriptReadsBackRow : OpenClaim := { program := "qxb6605735a", sum := "4b8bfc5ba3d3053aa58e07b16a5addc257ab2615f26699c29355fad6b3b4a510", func := "example.com/rigorous-signer/rigorous-signer/zzlaws_root_b1.FnReplayQueuePushScriptReadsBack", spec := "fnReplayQueuePushScriptReadsBack", apart := false }
def FnReplayQueuePushScriptReadsBackSaid : Prop := fnReplayQueuePushScriptReadsBackRow.holds Try.pinned (OpenSpec.ofChange fnReplayQueuePushScriptReadsBackSpec)

/-- ITS FALSE NEIGHBOUR: 'it returns false'. Refute it at one input. -/
def fnReplayQueuePushScriptReadsBackWrong : ChangeSpec := { name := "fnReplayQueuePushScriptReadsBack", fn := fun _ => fun
  | [d] => { results := [.lit (.bool false)], args := [d] }
  | _ => none }
def FnReplayQueuePushScriptReadsBackWrongFalsely : Prop := fnReplayQueuePushScriptReadsBackRow.holds Try.pinned (OpenSpec.ofChange fnReplayQueuePushScriptReadsBackWrong)

end Rows
end Go.Proofs.Qxb6605735a
