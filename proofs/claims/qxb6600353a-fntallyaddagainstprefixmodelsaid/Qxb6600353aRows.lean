/-
  No cell of these rows narrows 'for every input' (looked for: loops, veiled, ifaces, maps, wideKeys, modest, calm, conditions, laid).
  DERIVED. THE GIVEN ROWS OF THIS SEAT. 5 by the template 'for every input the law returns true; each argument reads behind the call as it read before'; 0 by the template 'total and deterministic' (their statements: Qxb6600353aTotals.lean).
  GIVEN WITH THE SEED: the statements are not yours to turn. If you find one false, say at which input.
  Laid BY PROGRAM, IN A SANDBOX (cutbox-rows.mjs): the forced cells as the released guide's own fill.sh prints them over the translation 5db3e838b02c5b87… (all of the seat's roots in one cut). By AI agents, Wed Nov 11 2026. No macro, syntax, notation, axiom, sorry.
-/
import Derived.Test.Qxb6600353aChecked
import GoSem.Claim
import GoSem.ClaimJoined
import GoSem.ClaimMapViews
import Derived.JoinedTies
import Derived.KernelRfl
namespace Go.Proofs.Qxb6600353a
/- THE CELL 'sum', in the pinned program and in every row, IS THE sha256 OF THE DUMP (.gsa) THAT Qxb6600353aProg.lean LOADS. Nothing in Lean hashes anything: it is a label: what it is worth is what the hold of that sum in a sandbox is worth. -/
noncomputable def Try.pinned : Pinned := { name := "qxb6600353a", sum := "5db3e838b02c5b874430bd807bcbb93fbe281cdd87f1632e720b5581b14d55e0", checked := Try.checked }
namespace Rows
def none {H : Type} : Left H := { results := [], args := [] }

/-- 'zzlaws_internal_paxos_b1.FnInstanceAcceptScriptOneValuePerBallot': WHATEVER THE INPUT: true; the input reads as it did. -/
def fnInstanceAcceptScriptOneValuePerBallotSpec : ChangeSpec := { name := "fnInstanceAcceptScriptOneValuePerBallot", fn := fun _ => fun
  | [d1, d2, d3, d4, d5] => { results := [.lit (.bool true)], args := [d1, d2, d3, d4, d5] }
  | _ => none }
def fnInstanceAcceptScriptOneValuePerBallotRow : OpenClaim := { program := "qxb6600353a", sum := "5db3e838b02c5b874430bd807bcbb93fbe281cdd87f1632e720b5581b14d55e0", func := "example.com/covenant/covenant/zzlaws_internal_paxos_b1.FnInstanceAcceptScriptOneValuePerBallot", spec := "fnInstanceAcceptScriptOneValuePerBallot", apart := false }
def FnInstanceAcceptScriptOneValuePerBallotSaid : Prop := fnInstanceAcceptScriptOneValuePerBallotRow.holds Try.pinned (OpenSpec.ofChange fnInstanceAcceptScriptOneValuePerBallotSpec)

/-- ITS FALSE NEIGHBOUR: 'it returns false'. Refute it at one input. -/
def fnInstanceAcceptScriptOneValuePerBallotWrong : ChangeSpec := { name := "fnInstanceAcceptScriptOneValuePerBallot", fn := fun _ => fun
  | [d1, d2, d3, d4, d5] => { results := [.lit (.bool false)], args := [d1, d2, d3, d4, d5] }
  | _ => none }
def FnInstanceAcceptScriptOneValuePerBallotWrongFalsely : Prop := fnInstanceAcceptScriptOneValuePerBallotRow.holds Try.pinned (OpenSpec.ofChange fnInstanceAcceptScriptOneValuePerBallotWrong)

/-- 'zzlaws_internal_paxos_b1.FnTallyAddAgainstPrefixModel': WHATEVER THE INPUT: true; the input reads as it did. -/
def fnTallyAddAgainstPrefixModelSpec : ChangeSpec := { name := "fnTallyAddAgainstPrefixModel", fn := fun _ => fun
  | [d1, d2, d3, d4] => { results := [.lit (.bool true)], args := [d1, d2, d3, d4] }
  | _ => none }
def fnTallyAddAgainstPrefixModelRow : OpenClaim := { program := "qxb6600353a", sum := "5db3e838b02c5b874430bd807bcbb93fbe281cdd87f1632e720b5581b14d55e0", func := "example.com/covenant/covenant/zzlaws_internal_paxos_b1.FnTallyAddAgainstPrefixModel", spec := "fnTallyAddAgainstPrefixModel", unfollowed := true, recurses := true, apart := false }
def FnTallyAddAgainstPrefixModelSaid : Prop := fnTallyAddAgainstPrefixModelRow.holds Try.pinned (OpenSpec.ofChange fnTallyAddAgainstPrefixModelSpec)

/-- ITS FALSE NEIGHBOUR: 'it returns false'. Refute it at one input. -/
def fnTallyAddAgainstPrefixModelWrong : ChangeSpec := { name := "fnTallyAddAgainstPrefixModel", fn := fun _ => fun
  | [d1, d2, d3, d4] => { results := [.lit (.bool false)], args := [d1, d2, d3, d4] }
  | _ => none }
def FnTallyAddAgainstPrefixModelWrongFalsely : Prop := fnTallyAddAgainstPrefixModelRow.holds Try.pinned (OpenSpec.ofChange fnTallyAddAgainstPrefixModelWrong)

/-- 'zzlaws_internal_paxos_b1.FnTallyAddAnswerIsOwnHighestReport': WHATEVER THE INPUT: true; the input reads as it did. -/
def fnTallyAddAnswerIsOwnHighestReportSpec : ChangeSpec := { name := "fnTallyAddAnswerIsOwnHighestReport", fn := fun _ => fun
  | [d1, d2, d3, d4] => { results := [.lit (.bool true)], args := [d1, d2, d3, d4] }
  | _ => none }
def fnTallyAddAnswerIsOwnHighestReportRow : OpenClaim := { program := "qxb6600353a", sum := "5db3e838b02c5b874430bd807bcbb93fbe281cdd87f1632e720b5581b14d55e0", func := "example.com/covenant/covenant/zzlaws_internal_paxos_b1.FnTallyAddAnswerIsOwnHighestReport", spec := "fnTallyAddAnswerIsOwnHighestReport", unfollowed := true, recurses := true, apart := false }
def FnTallyAddAnswerIsOwnHighestReportSaid : Prop := fnTallyAddAnswerIsOwnHighestReportRow.holds Try.pinned (OpenSpec.ofChange fnTallyAddAnswerIsOwnHighestReportSpec)

/-- ITS FALSE NEIGHBOUR: 'it returns false'. Refute it at one input. -/
def fnTallyAddAnswerIsOwnHighestReportWrong : ChangeSpec := { name := "fnTallyAddAnswerIsOwnHighestReport", fn := fun _ => fun
  | [d1, d2, d3, d4] => { results := [.lit (.bool false)], args := [d1, d2, d3, d4] }
  | _ => none }
def FnTallyAddAnswerIsOwnHighestReportWrongFalsely : Prop := fnTallyAddAnswerIsOwnHighestReportRow.holds Try.pinned (OpenSpec.ofChange fnTallyAddAnswerIsOwnHighestReportWrong)

/-- 'zzlaws_internal_paxos_b1.FnRecoveryPromiseAgainstModel': WHATEVER THE INPUT: true; the input reads as it did. -/
def fnRecoveryPromiseAgainstModelSpec : ChangeSpec := { name := "fnRecoveryPromiseAgainstModel", fn := fun _ => fun
  | [d1, d2, d3, d4, d5] => { results := [.lit (.bool true)], args := [d1, d2, d3, d4, d5] }
  | _ => none }
def fnRecoveryPromiseAgainstModelRow : OpenClaim := { program := "qxb6600353a", sum := "5db3e838b02c5b874430bd807bcbb93fbe281cdd87f1632e720b5581b14d55e0", func := "example.com/covenant/covenant/zzlaws_internal_paxos_b1.FnRecoveryPromiseAgainstModel", spec := "fnRecoveryPromiseAgainstModel", apart := false }
def FnRecoveryPromiseAgainstModelSaid : Prop := fnRecoveryPromiseAgainstModelRow.holds Try.pinned (OpenSpec.ofChange fnRecoveryPromiseAgainstModelSpec)

/-- ITS FALSE NEIGHBOUR: 'it returns false'. Refute it at one input. -/
def fnRecoveryPromiseAgainstModelWrong : ChangeSpec := { name := "fnRecoveryPromiseAgainstModel", fn := fun _ => fun
  | [d1, d2, d3, d4, d5] => { results := [.lit (.bool false)], args := [d1, d2, d3, d4, d5] }
  | _ => none }
def FnRecoveryPromiseAgainstModelWrongFalsely : Prop := fnRecoveryPromiseAgainstModelRow.holds Try.pinned (OpenSpec.ofChange fnRecoveryPromiseAgainstModelWrong)

/-- 'zzlaws_internal_paxos_b1.FnRecoveryPromiseDistinctOrderFree': WHATEVER THE INPUT: true; the input reads as it did. -/
def fnRecoveryPromiseDistinctOrderFreeSpec : ChangeSpec := { name := "fnRecoveryPromiseDistinctOrderFree", fn := fun _ => fun
  | [d1, d2, d3, d4] => { results := [.lit (.bool true)], args := [d1, d2, d3, d4] }
  | _ => none }
def fnRecoveryPromiseDistinctOrderFreeRow : OpenClaim := { program := "qxb6600353a", sum := "5db3e838b02c5b874430bd807bcbb93fbe281cdd87f1632e720b5581b14d55e0", func := "example.com/covenant/covenant/zzlaws_internal_paxos_b1.FnRecoveryPromiseDistinctOrderFree", spec := "fnRecoveryPromiseDistinctOrderFree", apart := false }
def FnRecoveryPromiseDistinctOrderFreeSaid : Prop := fnRecoveryPromiseDistinctOrderFreeRow.holds Try.pinned (OpenSpec.ofChange fnRecoveryPromiseDistinctOrderFreeSpec)

/-- ITS FALSE NEIGHBOUR: 'it returns false'. Refute it at one input. -/
def fnRecoveryPromiseDistinctOrderFreeWrong : ChangeSpec := { name := "fnRecoveryPromiseDistinctOrderFree", fn := fun _ => fun
  | [d1, d2, d3, d4] => { results := [.lit (.bool false)], args := [d1, d2, d3, d4] }
  | _ => none }
def FnRecoveryPromiseDistinctOrderFreeWrongFalsely : Prop := fnRecoveryPromiseDistinctOrderFreeRow.holds Try.pinned (OpenSpec.ofChange fnRecoveryPromiseDistinctOrderFreeWrong)

end Rows
end Go.Proofs.Qxb6600353a
