/-
  No cell of these rows narrows 'for every input' (looked for: loops, veiled, ifaces, maps, wideKeys, modest, calm, conditions, laid).
  DERIVED. THE GIVEN ROWS OF THIS SEAT. 4 by the template 'for every input the law returns true; each argument reads behind the call as it read before'; 0 by the template 'total and deterministic' (their statements: Qxb6601613aModsTotals.lean).
  GIVEN WITH THE SEED: the statements are not yours to turn. If you find one false, say at which input.
  Laid BY PROGRAM, IN A SANDBOX (cutbox-rows.mjs): the forced cells as the released guide's own fill.sh prints them over the translation 25224cf32733e93b… (all of the seat's roots in one cut). By AI agents, Wed Nov 11 2026. No macro, syntax, notation, axiom, sorry.
-/
import Derived.Test.Qxb6601613aModsChecked
import GoSem.Claim
import GoSem.ClaimJoined
import GoSem.ClaimMapViews
import Derived.JoinedTies
import Derived.KernelRfl
namespace Go.Proofs.Qxb6601613aMods
/- THE CELL 'sum', in the pinned program and in every row, IS THE sha256 OF THE DUMP (.gsa) THAT Qxb6601613aModsProg.lean LOADS. Nothing in Lean hashes anything: it is a label: what it is worth is what the hold of that sum in a sandbox is worth. -/
noncomputable def Trym.pinned : Pinned := { name := "qxb6601613amods", sum := "25224cf32733e93b2b0fb3bb2a13ec210cd22b3a1e373a41d175d5aa72b8620b", checked := Trym.checked }
namespace Rows
def none {H : Type} : Left H := { results := [], args := [] }

/-- 'zzlaws_root_b1.FnHighestIsFirstMaximum': WHATEVER THE INPUT: true; the input reads as it did. -/
def fnHighestIsFirstMaximumSpec : ChangeSpec := { name := "fnHighestIsFirstMaximum", fn := fun _ => fun
  | [d1, d2, d3, d4] => { results := [.lit (.bool true)], args := [d1, d2, d3, d4] }
  | _ => none }
def fnHighestIsFirstMaximumRow : OpenClaim := { program := "qxb6601613amods", sum := "25224cf32733e93b2b0fb3bb2a13ec210cd22b3a1e373a41d175d5aa72b8620b", func := "example.com/quorumline/quorumline/zzlaws_root_b1.FnHighestIsFirstMaximum", spec := "fnHighestIsFirstMaximum", make := .lifted ["publicsums"], apart := false }
def FnHighestIsFirstMaximumSaid : Prop := fnHighestIsFirstMaximumRow.holds Trym.pinned (OpenSpec.ofChange fnHighestIsFirstMaximumSpec)

/-- ITS FALSE NEIGHBOUR: 'it returns false'. Refute it at one input. -/
def fnHighestIsFirstMaximumWrong : ChangeSpec := { name := "fnHighestIsFirstMaximum", fn := fun _ => fun
  | [d1, d2, d3, d4] => { results := [.lit (.bool false)], args := [d1, d2, d3, d4] }
  | _ => none }
def FnHighestIsFirstMaximumWrongFalsely : Prop := fnHighestIsFirstMaximumRow.holds Trym.pinned (OpenSpec.ofChange fnHighestIsFirstMaximumWrong)

/-- 'zzlaws_root_b1.FnHighestSplitCombinesByMax': WHATEVER THE INPUT: true; the input reads as it did. -/
def fnHighestSplitCombinesByMaxSpec : ChangeSpec := { name := "fnHighestSplitCombinesByMax", fn := fun _ => fun
  | [d1, d2, d3, d4, d5] => { results := [.lit (.bool true)], args := [d1, d2, d3, d4, d5] }
  | _ => none }
def fnHighestSplitCombinesByMaxRow : OpenClaim := { program := "qxb6601613amods", sum := "25224cf32733e93b2b0fb3bb2a13ec210cd22b3a1e373a41d175d5aa72b8620b", func := "example.com/quorumline/quorumline/zzlaws_root_b1.FnHighestSplitCombinesByMax", spec := "fnHighestSplitCombinesByMax", make := .lifted ["publicsums"], apart := false }
def FnHighestSplitCombinesByMaxSaid : Prop := fnHighestSplitCombinesByMaxRow.holds Trym.pinned (OpenSpec.ofChange fnHighestSplitCombinesByMaxSpec)

/-- ITS FALSE NEIGHBOUR: 'it returns false'. Refute it at one input. -/
def fnHighestSplitCombinesByMaxWrong : ChangeSpec := { name := "fnHighestSplitCombinesByMax", fn := fun _ => fun
  | [d1, d2, d3, d4, d5] => { results := [.lit (.bool false)], args := [d1, d2, d3, d4, d5] }
  | _ => none }
def FnHighestSplitCombinesByMaxWrongFalsely : Prop := fnHighestSplitCombinesByMaxRow.holds Trym.pinned (OpenSpec.ofChange fnHighestSplitCombinesByMaxWrong)

/-- 'zzlaws_root_b1.FnTxQueueScriptMatchesModel': WHATEVER THE INPUT: true; the input reads as it did. -/
def fnTxQueueScriptMatchesModelSpec : ChangeSpec := { name := "fnTxQueueScriptMatchesModel", fn := fun _ => fun
  | [d] => { results := [.lit (.bool true)], args := [d] }
  | _ => none }
def fnTxQueueScriptMatchesModelRow : OpenClaim := { program := "qxb6601613amods", sum := "25224cf32733e93b2b0fb3bb2a13ec210cd22b3a1e373a41d175d5aa72b8620b", func := "example.com/quorumline/quorumline/zzlaws_root_b1.FnTxQueueScriptMatchesModel", spec := "fnTxQueueScriptMatchesModel", make := .lifted ["publicsums"], apart := false }
def FnTxQueueScriptMatchesModelSaid : Prop := fnTxQueueScriptMatchesModelRow.holds Trym.pinned (OpenSpec.ofChange fnTxQueueScriptMatchesModelSpec)

/-- ITS FALSE NEIGHBOUR: 'it returns false'. Refute it at one input. -/
def fnTxQueueScriptMatchesModelWrong : ChangeSpec := { name := "fnTxQueueScriptMatchesModel", fn := fun _ => fun
  | [d] => { results := [.lit (.bool false)], args := [d] }
  | _ => none }
def FnTxQueueScriptMatchesModelWrongFalsely : Prop := fnTxQueueScriptMatchesModelRow.holds Trym.pinned (OpenSpec.ofChange fnTxQueueScriptMatchesModelWrong)

/-- 'zzlaws_root_b1.FnTxQueuePushRemoveRoundTrip': WHATEVER THE INPUT: true; the input reads as it did. -/
def fnTxQueuePushRemoveRoundTripSpec : ChangeSpec := { name := "fnTxQueuePushRemoveRoundTrip", fn := fun _ => fun
  | [d1, d2] => { results := [.lit (.bool true)], args := [d1, d2] }
  | _ => none }
def fnTxQueuePushRemoveRoundTripRow : OpenClaim := { program := "qxb6601613amods", sum := "25224cf32733e93b2b0fb3bb2a13ec210cd22b3a1e373a41d175d5aa72b8620b", func := "example.com/quorumline/quorumline/zzlaws_root_b1.FnTxQueuePushRemoveRoundTrip", spec := "fnTxQueuePushRemoveRoundTrip", make := .lifted ["publicsums"], apart := false }
def FnTxQueuePushRemoveRoundTripSaid : Prop := fnTxQueuePushRemoveRoundTripRow.holds Trym.pinned (OpenSpec.ofChange fnTxQueuePushRemoveRoundTripSpec)

/-- ITS FALSE NEIGHBOUR: 'it returns false'. Refute it at one input. -/
def fnTxQueuePushRemoveRoundTripWrong : ChangeSpec := { name := "fnTxQueuePushRemoveRoundTrip", fn := fun _ => fun
  | [d1, d2] => { results := [.lit (.bool false)], args := [d1, d2] }
  | _ => none }
def FnTxQueuePushRemoveRoundTripWrongFalsely : Prop := fnTxQueuePushRemoveRoundTripRow.holds Trym.pinned (OpenSpec.ofChange fnTxQueuePushRemoveRoundTripWrong)

end Rows
end Go.Proofs.Qxb6601613aMods
