/-
  No cell of these rows narrows 'for every input' (looked for: loops, veiled, ifaces, maps, wideKeys, modest, calm, conditions, laid).
  DERIVED. THE GIVEN ROWS OF THIS SEAT. 6 by the template 'for every input the law returns true; each argument reads behind the call as it read before'; 0 by the template 'total and deterministic' (their statements: Qxb6612844aTotals.lean).
  GIVEN WITH THE SEED: the statements are not yours to turn. If you find one false, say at which input.
  Laid BY PROGRAM, IN A SANDBOX (cutbox-rows.mjs): the forced cells as the released guide's own fill.sh prints them over the translation 8a44d7b56ba051cc… (all of the seat's roots in one cut). By AI agents, Wed Nov 11 2026. No macro, syntax, notation, axiom, sorry.
-/
import Derived.Test.Qxb6612844aChecked
import GoSem.Claim
import GoSem.ClaimJoined
import GoSem.ClaimMapViews
import Derived.JoinedTies
import Derived.KernelRfl
namespace Go.Proofs.Qxb6612844a
/- THE CELL 'sum', in the pinned program and in every row, IS THE sha256 OF THE DUMP (.gsa) THAT Qxb6612844aProg.lean LOADS. Nothing in Lean hashes anything: it is a label: what it is worth is what the hold of that sum in a sandbox is worth. -/
noncomputable def Try.pinned : Pinned := { name := "qxb6612844a", sum := "8a44d7b56ba051ccf9f43411ee80383c904e561f09f8b88e2556a7385c0fbef6", checked := Try.checked }
namespace Rows
def none {H : Type} : Left H := { results := [], args := [] }

/-- 'zzlaws_internal_raft_b1.FnPeersExact': WHATEVER THE INPUT: true; the input reads as it did. -/
def fnPeersExactSpec : ChangeSpec := { name := "fnPeersExact", fn := fun _ => fun
  | [d1, d2, d3, d4, d5, d6, d7, d8] => { results := [.lit (.bool true)], args := [d1, d2, d3, d4, d5, d6, d7, d8] }
  | _ => none }
def fnPeersExactRow : OpenClaim := { program := "qxb6612844a", sum := "8a44d7b56ba051ccf9f43411ee80383c904e561f09f8b88e2556a7385c0fbef6", func := "example.com/quorumlog/quorumlog/zzlaws_internal_raft_b1.FnPeersExact", spec := "fnPeersExact", unfollowed := true, recurses := true, apart := false }
def FnPeersExactSaid : Prop := fnPeersExactRow.holds Try.pinned (OpenSpec.ofChange fnPeersExactSpec)

/-- ITS FALSE NEIGHBOUR: 'it returns false'. Refute it at one input. -/
def fnPeersExactWrong : ChangeSpec := { name := "fnPeersExact", fn := fun _ => fun
  | [d1, d2, d3, d4, d5, d6, d7, d8] => { results := [.lit (.bool false)], args := [d1, d2, d3, d4, d5, d6, d7, d8] }
  | _ => none }
def FnPeersExactWrongFalsely : Prop := fnPeersExactRow.holds Try.pinned (OpenSpec.ofChange fnPeersExactWrong)

/-- 'zzlaws_internal_raft_b1.FnPeersLeaderAddsNonVotersAfterVoters': WHATEVER THE INPUT: true; the input reads as it did. -/
def fnPeersLeaderAddsNonVotersAfterVotersSpec : ChangeSpec := { name := "fnPeersLeaderAddsNonVotersAfterVoters", fn := fun _ => fun
  | [d1, d2, d3, d4, d5, d6, d7] => { results := [.lit (.bool true)], args := [d1, d2, d3, d4, d5, d6, d7] }
  | _ => none }
def fnPeersLeaderAddsNonVotersAfterVotersRow : OpenClaim := { program := "qxb6612844a", sum := "8a44d7b56ba051ccf9f43411ee80383c904e561f09f8b88e2556a7385c0fbef6", func := "example.com/quorumlog/quorumlog/zzlaws_internal_raft_b1.FnPeersLeaderAddsNonVotersAfterVoters", spec := "fnPeersLeaderAddsNonVotersAfterVoters", unfollowed := true, recurses := true, apart := false }
def FnPeersLeaderAddsNonVotersAfterVotersSaid : Prop := fnPeersLeaderAddsNonVotersAfterVotersRow.holds Try.pinned (OpenSpec.ofChange fnPeersLeaderAddsNonVotersAfterVotersSpec)

/-- ITS FALSE NEIGHBOUR: 'it returns false'. Refute it at one input. -/
def fnPeersLeaderAddsNonVotersAfterVotersWrong : ChangeSpec := { name := "fnPeersLeaderAddsNonVotersAfterVoters", fn := fun _ => fun
  | [d1, d2, d3, d4, d5, d6, d7] => { results := [.lit (.bool false)], args := [d1, d2, d3, d4, d5, d6, d7] }
  | _ => none }
def FnPeersLeaderAddsNonVotersAfterVotersWrongFalsely : Prop := fnPeersLeaderAddsNonVotersAfterVotersRow.holds Try.pinned (OpenSpec.ofChange fnPeersLeaderAddsNonVotersAfterVotersWrong)

/-- 'zzlaws_internal_raft_b1.FnFirstIndexLeastUsableAndSpan': WHATEVER THE INPUT: true; the input reads as it did. -/
def fnFirstIndexLeastUsableAndSpanSpec : ChangeSpec := { name := "fnFirstIndexLeastUsableAndSpan", fn := fun _ => fun
  | [d1, d2] => { results := [.lit (.bool true)], args := [d1, d2] }
  | _ => none }
def fnFirstIndexLeastUsableAndSpanRow : OpenClaim := { program := "qxb6612844a", sum := "8a44d7b56ba051ccf9f43411ee80383c904e561f09f8b88e2556a7385c0fbef6", func := "example.com/quorumlog/quorumlog/zzlaws_internal_raft_b1.FnFirstIndexLeastUsableAndSpan", spec := "fnFirstIndexLeastUsableAndSpan", apart := false }
def FnFirstIndexLeastUsableAndSpanSaid : Prop := fnFirstIndexLeastUsableAndSpanRow.holds Try.pinned (OpenSpec.ofChange fnFirstIndexLeastUsableAndSpanSpec)

/-- ITS FALSE NEIGHBOUR: 'it returns false'. Refute it at one input. -/
def fnFirstIndexLeastUsableAndSpanWrong : ChangeSpec := { name := "fnFirstIndexLeastUsableAndSpan", fn := fun _ => fun
  | [d1, d2] => { results := [.lit (.bool false)], args := [d1, d2] }
  | _ => none }
def FnFirstIndexLeastUsableAndSpanWrongFalsely : Prop := fnFirstIndexLeastUsableAndSpanRow.holds Try.pinned (OpenSpec.ofChange fnFirstIndexLeastUsableAndSpanWrong)

/-- 'zzlaws_internal_raft_b1.FnCanUseSnapshotAgreesWithReplicate': WHATEVER THE INPUT: true; the input reads as it did. -/
def fnCanUseSnapshotAgreesWithReplicateSpec : ChangeSpec := { name := "fnCanUseSnapshotAgreesWithReplicate", fn := fun _ => fun
  | [d1, d2, d3, d4, d5, d6] => { results := [.lit (.bool true)], args := [d1, d2, d3, d4, d5, d6] }
  | _ => none }
def fnCanUseSnapshotAgreesWithReplicateRow : OpenClaim := { program := "qxb6612844a", sum := "8a44d7b56ba051ccf9f43411ee80383c904e561f09f8b88e2556a7385c0fbef6", func := "example.com/quorumlog/quorumlog/zzlaws_internal_raft_b1.FnCanUseSnapshotAgreesWithReplicate", spec := "fnCanUseSnapshotAgreesWithReplicate", apart := false }
def FnCanUseSnapshotAgreesWithReplicateSaid : Prop := fnCanUseSnapshotAgreesWithReplicateRow.holds Try.pinned (OpenSpec.ofChange fnCanUseSnapshotAgreesWithReplicateSpec)

/-- ITS FALSE NEIGHBOUR: 'it returns false'. Refute it at one input. -/
def fnCanUseSnapshotAgreesWithReplicateWrong : ChangeSpec := { name := "fnCanUseSnapshotAgreesWithReplicate", fn := fun _ => fun
  | [d1, d2, d3, d4, d5, d6] => { results := [.lit (.bool false)], args := [d1, d2, d3, d4, d5, d6] }
  | _ => none }
def FnCanUseSnapshotAgreesWithReplicateWrongFalsely : Prop := fnCanUseSnapshotAgreesWithReplicateRow.holds Try.pinned (OpenSpec.ofChange fnCanUseSnapshotAgreesWithReplicateWrong)

/-- 'zzlaws_internal_raft_b1.FnCanUseSnapshotMonotoneAndPastTheLog': WHATEVER THE INPUT: true; the input reads as it did. -/
def fnCanUseSnapshotMonotoneAndPastTheLogSpec : ChangeSpec := { name := "fnCanUseSnapshotMonotoneAndPastTheLog", fn := fun _ => fun
  | [d1, d2, d3, d4] => { results := [.lit (.bool true)], args := [d1, d2, d3, d4] }
  | _ => none }
def fnCanUseSnapshotMonotoneAndPastTheLogRow : OpenClaim := { program := "qxb6612844a", sum := "8a44d7b56ba051ccf9f43411ee80383c904e561f09f8b88e2556a7385c0fbef6", func := "example.com/quorumlog/quorumlog/zzlaws_internal_raft_b1.FnCanUseSnapshotMonotoneAndPastTheLog", spec := "fnCanUseSnapshotMonotoneAndPastTheLog", apart := false }
def FnCanUseSnapshotMonotoneAndPastTheLogSaid : Prop := fnCanUseSnapshotMonotoneAndPastTheLogRow.holds Try.pinned (OpenSpec.ofChange fnCanUseSnapshotMonotoneAndPastTheLogSpec)

/-- ITS FALSE NEIGHBOUR: 'it returns false'. Refute it at one input. -/
def fnCanUseSnapshotMonotoneAndPastTheLogWrong : ChangeSpec := { name := "fnCanUseSnapshotMonotoneAndPastTheLog", fn := fun _ => fun
  | [d1, d2, d3, d4] => { results := [.lit (.bool false)], args := [d1, d2, d3, d4] }
  | _ => none }
def FnCanUseSnapshotMonotoneAndPastTheLogWrongFalsely : Prop := fnCanUseSnapshotMonotoneAndPastTheLogRow.holds Try.pinned (OpenSpec.ofChange fnCanUseSnapshotMonotoneAndPastTheLogWrong)

/-- 'zzlaws_internal_raft_b1.FnReplicateExact': WHATEVER THE INPUT: true; the input reads as it did. -/
def fnReplicateExactSpec : ChangeSpec := { name := "fnReplicateExact", fn := fun _ => fun
  | [d1, d2, d3, d4, d5, d6, d7, d8, d9, d10, d11, d12] => { results := [.lit (.bool true)], args := [d1, d2, d3, d4, d5, d6, d7, d8, d9, d10, d11, d12] }
  | _ => none }
def fnReplicateExactRow : OpenClaim := { program := "qxb6612844a", sum := "8a44d7b56ba051ccf9f43411ee80383c904e561f09f8b88e2556a7385c0fbef6", func := "example.com/quorumlog/quorumlog/zzlaws_internal_raft_b1.FnReplicateExact", spec := "fnReplicateExact", apart := false }
def FnReplicateExactSaid : Prop := fnReplicateExactRow.holds Try.pinned (OpenSpec.ofChange fnReplicateExactSpec)

/-- ITS FALSE NEIGHBOUR: 'it returns false'. Refute it at one input. -/
def fnReplicateExactWrong : ChangeSpec := { name := "fnReplicateExact", fn := fun _ => fun
  | [d1, d2, d3, d4, d5, d6, d7, d8, d9, d10, d11, d12] => { results := [.lit (.bool false)], args := [d1, d2, d3, d4, d5, d6, d7, d8, d9, d10, d11, d12] }
  | _ => none }
def FnReplicateExactWrongFalsely : Prop := fnReplicateExactRow.holds Try.pinned (OpenSpec.ofChange fnReplicateExactWrong)

end Rows
end Go.Proofs.Qxb6612844a
