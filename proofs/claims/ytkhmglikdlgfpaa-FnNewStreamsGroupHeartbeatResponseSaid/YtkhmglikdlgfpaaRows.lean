/-
  No cell of these rows narrows 'for every input' (looked for: loops, veiled, ifaces, maps, wideKeys, modest, calm, conditions, laid).
  DERIVED. THE GIVEN ROWS OF THIS SEAT. 14 by the template 'for every input the law returns true; each argument reads behind the call as it read before'; 0 by the template 'total and deterministic' (their statements: YtkhmglikdlgfpaaTotals.lean).
  GIVEN WITH THE SEED: the statements are not yours to turn. If you find one false, say at which input.
  Laid BY PROGRAM, IN A SANDBOX (cutbox-rows.mjs): the forced cells as the released guide's own fill.sh prints them over the translation de4ebc0a8f50b69c… (all of the seat's roots in one cut). By AI agents, Wed Nov 11 2026. No macro, syntax, notation, axiom, sorry.
-/
import Derived.Test.YtkhmglikdlgfpaaChecked
import GoSem.Claim
import GoSem.ClaimJoined
import GoSem.ClaimMapViews
import Derived.JoinedTies
import Derived.KernelRfl
namespace Go.Proofs.Ytkhmglikdlgfpaa
/- THE CELL 'sum', in the pinned program and in every row, IS THE sha256 OF THE DUMP (.gsa) THAT YtkhmglikdlgfpaaProg.lean LOADS. Nothing in Lean hashes anything: it is a label: what it is worth is what the hold of that sum in a sandbox is worth. -/
noncomputable def Try.pinned : Pinned := { name := "ytkhmglikdlgfpaa", sum := "de4ebc0a8f50b69cca234866a6377de2030aed9d6a976638249183dd98bc30c4", checked := Try.checked }
namespace Rows
def none {H : Type} : Left H := { results := [], args := [] }

/-- 'laws.FnNewGetTelemetrySubscriptionsRequest': WHATEVER THE INPUT: true; the input reads as it did. -/
def fnNewGetTelemetrySubscriptionsRequestSpec : ChangeSpec := { name := "fnNewGetTelemetrySubscriptionsRequest", fn := fun _ => fun
  | [d] => { results := [.lit (.bool true)], args := [d] }
  | _ => none }
def fnNewGetTelemetrySubscriptionsRequestRow : OpenClaim := { program := "ytkhmglikdlgfpaa", sum := "de4ebc0a8f50b69cca234866a6377de2030aed9d6a976638249183dd98bc30c4", func := "pub-kmsg/laws.FnNewGetTelemetrySubscriptionsRequest", spec := "fnNewGetTelemetrySubscriptionsRequest", inPlace := ["internal/reflectlite.ValueOf", "internal/reflectlite.Swapper", "(internal/reflectlite.Value).Len"], unfollowed := true, recurses := true, apart := false }
def FnNewGetTelemetrySubscriptionsRequestSaid : Prop := fnNewGetTelemetrySubscriptionsRequestRow.holds Try.pinned (OpenSpec.ofChange fnNewGetTelemetrySubscriptionsRequestSpec)

/-- ITS FALSE NEIGHBOUR: 'it returns false'. Refute it at one input. -/
def fnNewGetTelemetrySubscriptionsRequestWrong : ChangeSpec := { name := "fnNewGetTelemetrySubscriptionsRequest", fn := fun _ => fun
  | [d] => { results := [.lit (.bool false)], args := [d] }
  | _ => none }
def FnNewGetTelemetrySubscriptionsRequestWrongFalsely : Prop := fnNewGetTelemetrySubscriptionsRequestRow.holds Try.pinned (OpenSpec.ofChange fnNewGetTelemetrySubscriptionsRequestWrong)

/-- 'laws.FnNewPushTelemetryResponse': WHATEVER THE INPUT: true; the input reads as it did. -/
def fnNewPushTelemetryResponseSpec : ChangeSpec := { name := "fnNewPushTelemetryResponse", fn := fun _ => fun
  | [d] => { results := [.lit (.bool true)], args := [d] }
  | _ => none }
def fnNewPushTelemetryResponseRow : OpenClaim := { program := "ytkhmglikdlgfpaa", sum := "de4ebc0a8f50b69cca234866a6377de2030aed9d6a976638249183dd98bc30c4", func := "pub-kmsg/laws.FnNewPushTelemetryResponse", spec := "fnNewPushTelemetryResponse", inPlace := ["internal/reflectlite.ValueOf", "internal/reflectlite.Swapper", "(internal/reflectlite.Value).Len"], unfollowed := true, recurses := true, apart := false }
def FnNewPushTelemetryResponseSaid : Prop := fnNewPushTelemetryResponseRow.holds Try.pinned (OpenSpec.ofChange fnNewPushTelemetryResponseSpec)

/-- ITS FALSE NEIGHBOUR: 'it returns false'. Refute it at one input. -/
def fnNewPushTelemetryResponseWrong : ChangeSpec := { name := "fnNewPushTelemetryResponse", fn := fun _ => fun
  | [d] => { results := [.lit (.bool false)], args := [d] }
  | _ => none }
def FnNewPushTelemetryResponseWrongFalsely : Prop := fnNewPushTelemetryResponseRow.holds Try.pinned (OpenSpec.ofChange fnNewPushTelemetryResponseWrong)

/-- 'laws.FnNewDeleteGroupsRequest': WHATEVER THE INPUT: true; the input reads as it did. -/
def fnNewDeleteGroupsRequestSpec : ChangeSpec := { name := "fnNewDeleteGroupsRequest", fn := fun _ => fun
  | [d] => { results := [.lit (.bool true)], args := [d] }
  | _ => none }
def fnNewDeleteGroupsRequestRow : OpenClaim := { program := "ytkhmglikdlgfpaa", sum := "de4ebc0a8f50b69cca234866a6377de2030aed9d6a976638249183dd98bc30c4", func := "pub-kmsg/laws.FnNewDeleteGroupsRequest", spec := "fnNewDeleteGroupsRequest", inPlace := ["internal/reflectlite.ValueOf", "internal/reflectlite.Swapper", "(internal/reflectlite.Value).Len"], unfollowed := true, recurses := true, apart := false }
def FnNewDeleteGroupsRequestSaid : Prop := fnNewDeleteGroupsRequestRow.holds Try.pinned (OpenSpec.ofChange fnNewDeleteGroupsRequestSpec)

/-- ITS FALSE NEIGHBOUR: 'it returns false'. Refute it at one input. -/
def fnNewDeleteGroupsRequestWrong : ChangeSpec := { name := "fnNewDeleteGroupsRequest", fn := fun _ => fun
  | [d] => { results := [.lit (.bool false)], args := [d] }
  | _ => none }
def FnNewDeleteGroupsRequestWrongFalsely : Prop := fnNewDeleteGroupsRequestRow.holds Try.pinned (OpenSpec.ofChange fnNewDeleteGroupsRequestWrong)

/-- 'laws.FnNewControlledShutdownResponse': WHATEVER THE INPUT: true; the input reads as it did. -/
def fnNewControlledShutdownResponseSpec : ChangeSpec := { name := "fnNewControlledShutdownResponse", fn := fun _ => fun
  | [d] => { results := [.lit (.bool true)], args := [d] }
  | _ => none }
def fnNewControlledShutdownResponseRow : OpenClaim := { program := "ytkhmglikdlgfpaa", sum := "de4ebc0a8f50b69cca234866a6377de2030aed9d6a976638249183dd98bc30c4", func := "pub-kmsg/laws.FnNewControlledShutdownResponse", spec := "fnNewControlledShutdownResponse", inPlace := ["internal/reflectlite.ValueOf", "internal/reflectlite.Swapper", "(internal/reflectlite.Value).Len"], unfollowed := true, recurses := true, apart := false }
def FnNewControlledShutdownResponseSaid : Prop := fnNewControlledShutdownResponseRow.holds Try.pinned (OpenSpec.ofChange fnNewControlledShutdownResponseSpec)

/-- ITS FALSE NEIGHBOUR: 'it returns false'. Refute it at one input. -/
def fnNewControlledShutdownResponseWrong : ChangeSpec := { name := "fnNewControlledShutdownResponse", fn := fun _ => fun
  | [d] => { results := [.lit (.bool false)], args := [d] }
  | _ => none }
def FnNewControlledShutdownResponseWrongFalsely : Prop := fnNewControlledShutdownResponseRow.holds Try.pinned (OpenSpec.ofChange fnNewControlledShutdownResponseWrong)

/-- 'laws.FnNewDescribeQuorumRequest': WHATEVER THE INPUT: true; the input reads as it did. -/
def fnNewDescribeQuorumRequestSpec : ChangeSpec := { name := "fnNewDescribeQuorumRequest", fn := fun _ => fun
  | [d] => { results := [.lit (.bool true)], args := [d] }
  | _ => none }
def fnNewDescribeQuorumRequestRow : OpenClaim := { program := "ytkhmglikdlgfpaa", sum := "de4ebc0a8f50b69cca234866a6377de2030aed9d6a976638249183dd98bc30c4", func := "pub-kmsg/laws.FnNewDescribeQuorumRequest", spec := "fnNewDescribeQuorumRequest", inPlace := ["internal/reflectlite.ValueOf", "internal/reflectlite.Swapper", "(internal/reflectlite.Value).Len"], unfollowed := true, recurses := true, apart := false }
def FnNewDescribeQuorumRequestSaid : Prop := fnNewDescribeQuorumRequestRow.holds Try.pinned (OpenSpec.ofChange fnNewDescribeQuorumRequestSpec)

/-- ITS FALSE NEIGHBOUR: 'it returns false'. Refute it at one input. -/
def fnNewDescribeQuorumRequestWrong : ChangeSpec := { name := "fnNewDescribeQuorumRequest", fn := fun _ => fun
  | [d] => { results := [.lit (.bool false)], args := [d] }
  | _ => none }
def FnNewDescribeQuorumRequestWrongFalsely : Prop := fnNewDescribeQuorumRequestRow.holds Try.pinned (OpenSpec.ofChange fnNewDescribeQuorumRequestWrong)

/-- 'laws.FnNewAlterConfigsResponse': WHATEVER THE INPUT: true; the input reads as it did. -/
def fnNewAlterConfigsResponseSpec : ChangeSpec := { name := "fnNewAlterConfigsResponse", fn := fun _ => fun
  | [d] => { results := [.lit (.bool true)], args := [d] }
  | _ => none }
def fnNewAlterConfigsResponseRow : OpenClaim := { program := "ytkhmglikdlgfpaa", sum := "de4ebc0a8f50b69cca234866a6377de2030aed9d6a976638249183dd98bc30c4", func := "pub-kmsg/laws.FnNewAlterConfigsResponse", spec := "fnNewAlterConfigsResponse", inPlace := ["internal/reflectlite.ValueOf", "internal/reflectlite.Swapper", "(internal/reflectlite.Value).Len"], unfollowed := true, recurses := true, apart := false }
def FnNewAlterConfigsResponseSaid : Prop := fnNewAlterConfigsResponseRow.holds Try.pinned (OpenSpec.ofChange fnNewAlterConfigsResponseSpec)

/-- ITS FALSE NEIGHBOUR: 'it returns false'. Refute it at one input. -/
def fnNewAlterConfigsResponseWrong : ChangeSpec := { name := "fnNewAlterConfigsResponse", fn := fun _ => fun
  | [d] => { results := [.lit (.bool false)], args := [d] }
  | _ => none }
def FnNewAlterConfigsResponseWrongFalsely : Prop := fnNewAlterConfigsResponseRow.holds Try.pinned (OpenSpec.ofChange fnNewAlterConfigsResponseWrong)

/-- 'laws.FnNewAssignReplicasToDirsRequest': WHATEVER THE INPUT: true; the input reads as it did. -/
def fnNewAssignReplicasToDirsRequestSpec : ChangeSpec := { name := "fnNewAssignReplicasToDirsRequest", fn := fun _ => fun
  | [d] => { results := [.lit (.bool true)], args := [d] }
  | _ => none }
def fnNewAssignReplicasToDirsRequestRow : OpenClaim := { program := "ytkhmglikdlgfpaa", sum := "de4ebc0a8f50b69cca234866a6377de2030aed9d6a976638249183dd98bc30c4", func := "pub-kmsg/laws.FnNewAssignReplicasToDirsRequest", spec := "fnNewAssignReplicasToDirsRequest", inPlace := ["internal/reflectlite.ValueOf", "internal/reflectlite.Swapper", "(internal/reflectlite.Value).Len"], unfollowed := true, recurses := true, apart := false }
def FnNewAssignReplicasToDirsRequestSaid : Prop := fnNewAssignReplicasToDirsRequestRow.holds Try.pinned (OpenSpec.ofChange fnNewAssignReplicasToDirsRequestSpec)

/-- ITS FALSE NEIGHBOUR: 'it returns false'. Refute it at one input. -/
def fnNewAssignReplicasToDirsRequestWrong : ChangeSpec := { name := "fnNewAssignReplicasToDirsRequest", fn := fun _ => fun
  | [d] => { results := [.lit (.bool false)], args := [d] }
  | _ => none }
def FnNewAssignReplicasToDirsRequestWrongFalsely : Prop := fnNewAssignReplicasToDirsRequestRow.holds Try.pinned (OpenSpec.ofChange fnNewAssignReplicasToDirsRequestWrong)

/-- 'laws.FnNewLeaderAndISRResponse': WHATEVER THE INPUT: true; the input reads as it did. -/
def fnNewLeaderAndISRResponseSpec : ChangeSpec := { name := "fnNewLeaderAndISRResponse", fn := fun _ => fun
  | [d] => { results := [.lit (.bool true)], args := [d] }
  | _ => none }
def fnNewLeaderAndISRResponseRow : OpenClaim := { program := "ytkhmglikdlgfpaa", sum := "de4ebc0a8f50b69cca234866a6377de2030aed9d6a976638249183dd98bc30c4", func := "pub-kmsg/laws.FnNewLeaderAndISRResponse", spec := "fnNewLeaderAndISRResponse", inPlace := ["internal/reflectlite.ValueOf", "internal/reflectlite.Swapper", "(internal/reflectlite.Value).Len"], unfollowed := true, recurses := true, apart := false }
def FnNewLeaderAndISRResponseSaid : Prop := fnNewLeaderAndISRResponseRow.holds Try.pinned (OpenSpec.ofChange fnNewLeaderAndISRResponseSpec)

/-- ITS FALSE NEIGHBOUR: 'it returns false'. Refute it at one input. -/
def fnNewLeaderAndISRResponseWrong : ChangeSpec := { name := "fnNewLeaderAndISRResponse", fn := fun _ => fun
  | [d] => { results := [.lit (.bool false)], args := [d] }
  | _ => none }
def FnNewLeaderAndISRResponseWrongFalsely : Prop := fnNewLeaderAndISRResponseRow.holds Try.pinned (OpenSpec.ofChange fnNewLeaderAndISRResponseWrong)

/-- 'laws.FnNewMetadataRequest': WHATEVER THE INPUT: true; the input reads as it did. -/
def fnNewMetadataRequestSpec : ChangeSpec := { name := "fnNewMetadataRequest", fn := fun _ => fun
  | [d] => { results := [.lit (.bool true)], args := [d] }
  | _ => none }
def fnNewMetadataRequestRow : OpenClaim := { program := "ytkhmglikdlgfpaa", sum := "de4ebc0a8f50b69cca234866a6377de2030aed9d6a976638249183dd98bc30c4", func := "pub-kmsg/laws.FnNewMetadataRequest", spec := "fnNewMetadataRequest", inPlace := ["internal/reflectlite.ValueOf", "internal/reflectlite.Swapper", "(internal/reflectlite.Value).Len"], unfollowed := true, recurses := true, apart := false }
def FnNewMetadataRequestSaid : Prop := fnNewMetadataRequestRow.holds Try.pinned (OpenSpec.ofChange fnNewMetadataRequestSpec)

/-- ITS FALSE NEIGHBOUR: 'it returns false'. Refute it at one input. -/
def fnNewMetadataRequestWrong : ChangeSpec := { name := "fnNewMetadataRequest", fn := fun _ => fun
  | [d] => { results := [.lit (.bool false)], args := [d] }
  | _ => none }
def FnNewMetadataRequestWrongFalsely : Prop := fnNewMetadataRequestRow.holds Try.pinned (OpenSpec.ofChange fnNewMetadataRequestWrong)

/-- 'laws.FnNewEndQuorumEpochResponse': WHATEVER THE INPUT: true; the input reads as it did. -/
def fnNewEndQuorumEpochResponseSpec : ChangeSpec := { name := "fnNewEndQuorumEpochResponse", fn := fun _ => fun
  | [d] => { results := [.lit (.bool true)], args := [d] }
  | _ => none }
def fnNewEndQuorumEpochResponseRow : OpenClaim := { program := "ytkhmglikdlgfpaa", sum := "de4ebc0a8f50b69cca234866a6377de2030aed9d6a976638249183dd98bc30c4", func := "pub-kmsg/laws.FnNewEndQuorumEpochResponse", spec := "fnNewEndQuorumEpochResponse", inPlace := ["internal/reflectlite.ValueOf", "internal/reflectlite.Swapper", "(internal/reflectlite.Value).Len"], unfollowed := true, recurses := true, apart := false }
def FnNewEndQuorumEpochResponseSaid : Prop := fnNewEndQuorumEpochResponseRow.holds Try.pinned (OpenSpec.ofChange fnNewEndQuorumEpochResponseSpec)

/-- ITS FALSE NEIGHBOUR: 'it returns false'. Refute it at one input. -/
def fnNewEndQuorumEpochResponseWrong : ChangeSpec := { name := "fnNewEndQuorumEpochResponse", fn := fun _ => fun
  | [d] => { results := [.lit (.bool false)], args := [d] }
  | _ => none }
def FnNewEndQuorumEpochResponseWrongFalsely : Prop := fnNewEndQuorumEpochResponseRow.holds Try.pinned (OpenSpec.ofChange fnNewEndQuorumEpochResponseWrong)

/-- 'laws.FnNewDescribeClientQuotasResponse': WHATEVER THE INPUT: true; the input reads as it did. -/
def fnNewDescribeClientQuotasResponseSpec : ChangeSpec := { name := "fnNewDescribeClientQuotasResponse", fn := fun _ => fun
  | [d] => { results := [.lit (.bool true)], args := [d] }
  | _ => none }
def fnNewDescribeClientQuotasResponseRow : OpenClaim := { program := "ytkhmglikdlgfpaa", sum := "de4ebc0a8f50b69cca234866a6377de2030aed9d6a976638249183dd98bc30c4", func := "pub-kmsg/laws.FnNewDescribeClientQuotasResponse", spec := "fnNewDescribeClientQuotasResponse", inPlace := ["internal/reflectlite.ValueOf", "internal/reflectlite.Swapper", "(internal/reflectlite.Value).Len", "math.Float64bits"], unfollowed := true, recurses := true, apart := false }
def FnNewDescribeClientQuotasResponseSaid : Prop := fnNewDescribeClientQuotasResponseRow.holds Try.pinned (OpenSpec.ofChange fnNewDescribeClientQuotasResponseSpec)

/-- ITS FALSE NEIGHBOUR: 'it returns false'. Refute it at one input. -/
def fnNewDescribeClientQuotasResponseWrong : ChangeSpec := { name := "fnNewDescribeClientQuotasResponse", fn := fun _ => fun
  | [d] => { results := [.lit (.bool false)], args := [d] }
  | _ => none }
def FnNewDescribeClientQuotasResponseWrongFalsely : Prop := fnNewDescribeClientQuotasResponseRow.holds Try.pinned (OpenSpec.ofChange fnNewDescribeClientQuotasResponseWrong)

/-- 'laws.FnNewShareAcknowledgeRequest': WHATEVER THE INPUT: true; the input reads as it did. -/
def fnNewShareAcknowledgeRequestSpec : ChangeSpec := { name := "fnNewShareAcknowledgeRequest", fn := fun _ => fun
  | [d] => { results := [.lit (.bool true)], args := [d] }
  | _ => none }
def fnNewShareAcknowledgeRequestRow : OpenClaim := { program := "ytkhmglikdlgfpaa", sum := "de4ebc0a8f50b69cca234866a6377de2030aed9d6a976638249183dd98bc30c4", func := "pub-kmsg/laws.FnNewShareAcknowledgeRequest", spec := "fnNewShareAcknowledgeRequest", inPlace := ["internal/reflectlite.ValueOf", "internal/reflectlite.Swapper", "(internal/reflectlite.Value).Len"], unfollowed := true, recurses := true, apart := false }
def FnNewShareAcknowledgeRequestSaid : Prop := fnNewShareAcknowledgeRequestRow.holds Try.pinned (OpenSpec.ofChange fnNewShareAcknowledgeRequestSpec)

/-- ITS FALSE NEIGHBOUR: 'it returns false'. Refute it at one input. -/
def fnNewShareAcknowledgeRequestWrong : ChangeSpec := { name := "fnNewShareAcknowledgeRequest", fn := fun _ => fun
  | [d] => { results := [.lit (.bool false)], args := [d] }
  | _ => none }
def FnNewShareAcknowledgeRequestWrongFalsely : Prop := fnNewShareAcknowledgeRequestRow.holds Try.pinned (OpenSpec.ofChange fnNewShareAcknowledgeRequestWrong)

/-- 'laws.FnNewUpdateMetadataRequest': WHATEVER THE INPUT: true; the input reads as it did. -/
def fnNewUpdateMetadataRequestSpec : ChangeSpec := { name := "fnNewUpdateMetadataRequest", fn := fun _ => fun
  | [d] => { results := [.lit (.bool true)], args := [d] }
  | _ => none }
def fnNewUpdateMetadataRequestRow : OpenClaim := { program := "ytkhmglikdlgfpaa", sum := "de4ebc0a8f50b69cca234866a6377de2030aed9d6a976638249183dd98bc30c4", func := "pub-kmsg/laws.FnNewUpdateMetadataRequest", spec := "fnNewUpdateMetadataRequest", inPlace := ["internal/reflectlite.ValueOf", "internal/reflectlite.Swapper", "(internal/reflectlite.Value).Len"], unfollowed := true, recurses := true, apart := false }
def FnNewUpdateMetadataRequestSaid : Prop := fnNewUpdateMetadataRequestRow.holds Try.pinned (OpenSpec.ofChange fnNewUpdateMetadataRequestSpec)

/-- ITS FALSE NEIGHBOUR: 'it returns false'. Refute it at one input. -/
def fnNewUpdateMetadataRequestWrong : ChangeSpec := { name := "fnNewUpdateMetadataRequest", fn := fun _ => fun
  | [d] => { results := [.lit (.bool false)], args := [d] }
  | _ => none }
def FnNewUpdateMetadataRequestWrongFalsely : Prop := fnNewUpdateMetadataRequestRow.holds Try.pinned (OpenSpec.ofChange fnNewUpdateMetadataRequestWrong)

/-- 'laws.FnNewStreamsGroupHeartbeatResponse': WHATEVER THE INPUT: true; the input reads as it did. -/
def fnNewStreamsGroupHeartbeatResponseSpec : ChangeSpec := { name := "fnNewStreamsGroupHeartbeatResponse", fn := fun _ => fun
  | [d] => { results := [.lit (.bool true)], args := [d] }
  | _ => none }
def fnNewStreamsGroupHeartbeatResponseRow : OpenClaim := { program := "ytkhmglikdlgfpaa", sum := "de4ebc0a8f50b69cca234866a6377de2030aed9d6a976638249183dd98bc30c4", func := "pub-kmsg/laws.FnNewStreamsGroupHeartbeatResponse", spec := "fnNewStreamsGroupHeartbeatResponse", inPlace := ["internal/reflectlite.ValueOf", "internal/reflectlite.Swapper", "(internal/reflectlite.Value).Len"], unfollowed := true, recurses := true, apart := false }
def FnNewStreamsGroupHeartbeatResponseSaid : Prop := fnNewStreamsGroupHeartbeatResponseRow.holds Try.pinned (OpenSpec.ofChange fnNewStreamsGroupHeartbeatResponseSpec)

/-- ITS FALSE NEIGHBOUR: 'it returns false'. Refute it at one input. -/
def fnNewStreamsGroupHeartbeatResponseWrong : ChangeSpec := { name := "fnNewStreamsGroupHeartbeatResponse", fn := fun _ => fun
  | [d] => { results := [.lit (.bool false)], args := [d] }
  | _ => none }
def FnNewStreamsGroupHeartbeatResponseWrongFalsely : Prop := fnNewStreamsGroupHeartbeatResponseRow.holds Try.pinned (OpenSpec.ofChange fnNewStreamsGroupHeartbeatResponseWrong)

/- THE SECOND FORM. 'bulk': how many values and letters a reading holds, each counted each time it is reached (what is shared counts as often as it is met; a slice's spare places count too). A statement '..UptoSaid' is the law's where the arguments, and the package variables that the reading takes, are together of bulk at most 1048576: NARROWER than '..Said'. Prove '..Said' where nothing that the law and all that it calls make is longer than what came in: it says more and counts as full. Else prove '..UptoSaid'. A law counts once. -/
mutual
def uptoBulk {H : Type} : DataW H → Nat
  | .lit (.string bytes) => bytes.length + 1
  | .lit _ => 1
  | .nil => 1
  | .ptr d => uptoBulk d + 1
  | .slice elems spare => uptoBulkAll elems + uptoBulkAll spare + 1
  | .agg parts => uptoBulkAll parts + 1
  | .iface _ d => uptoBulk d + 1
  | .map entries => uptoBulkEntries entries + 1
  | .held _ => 1
def uptoBulkAll {H : Type} : List (DataW H) → Nat
  | [] => 0
  | d :: r => uptoBulk d + uptoBulkAll r
def uptoBulkEntries {H : Type} : List (Lit × DataW H) → Nat
  | [] => 0
  | x :: r => uptoBulkEntry x + uptoBulkEntries r
def uptoBulkEntry {H : Type} : Lit × DataW H → Nat
  | (.string bytes, d) => bytes.length + uptoBulk d + 1
  | (_, d) => uptoBulk d + 1
 end
def uptoSmall : (H : Type) → List (DataW H) → Bool := fun _ ds => decide (uptoBulkAll ds ≤ 1048576)
def OpenSpec.upto (s : _root_.Go.ChangeSpec) : _root_.Go.OpenSpec := { _root_.Go.OpenSpec.ofChange s with cond := some uptoSmall }

/-- 'laws.FnNewGetTelemetrySubscriptionsRequest', WHERE WHAT IT READS IS OF BULK AT MOST 1048576: true; the input reads as it did. -/
def fnNewGetTelemetrySubscriptionsRequestUptoRow : OpenClaim := { program := "ytkhmglikdlgfpaa", sum := "de4ebc0a8f50b69cca234866a6377de2030aed9d6a976638249183dd98bc30c4", func := "pub-kmsg/laws.FnNewGetTelemetrySubscriptionsRequest", spec := "fnNewGetTelemetrySubscriptionsRequest", inPlace := ["internal/reflectlite.ValueOf", "internal/reflectlite.Swapper", "(internal/reflectlite.Value).Len"], unfollowed := true, recurses := true, apart := false, narrowed := true }
def FnNewGetTelemetrySubscriptionsRequestUptoSaid : Prop := fnNewGetTelemetrySubscriptionsRequestUptoRow.holds Try.pinned (OpenSpec.upto fnNewGetTelemetrySubscriptionsRequestSpec)

/-- 'laws.FnNewPushTelemetryResponse', WHERE WHAT IT READS IS OF BULK AT MOST 1048576: true; the input reads as it did. -/
def fnNewPushTelemetryResponseUptoRow : OpenClaim := { program := "ytkhmglikdlgfpaa", sum := "de4ebc0a8f50b69cca234866a6377de2030aed9d6a976638249183dd98bc30c4", func := "pub-kmsg/laws.FnNewPushTelemetryResponse", spec := "fnNewPushTelemetryResponse", inPlace := ["internal/reflectlite.ValueOf", "internal/reflectlite.Swapper", "(internal/reflectlite.Value).Len"], unfollowed := true, recurses := true, apart := false, narrowed := true }
def FnNewPushTelemetryResponseUptoSaid : Prop := fnNewPushTelemetryResponseUptoRow.holds Try.pinned (OpenSpec.upto fnNewPushTelemetryResponseSpec)

/-- 'laws.FnNewDeleteGroupsRequest', WHERE WHAT IT READS IS OF BULK AT MOST 1048576: true; the input reads as it did. -/
def fnNewDeleteGroupsRequestUptoRow : OpenClaim := { program := "ytkhmglikdlgfpaa", sum := "de4ebc0a8f50b69cca234866a6377de2030aed9d6a976638249183dd98bc30c4", func := "pub-kmsg/laws.FnNewDeleteGroupsRequest", spec := "fnNewDeleteGroupsRequest", inPlace := ["internal/reflectlite.ValueOf", "internal/reflectlite.Swapper", "(internal/reflectlite.Value).Len"], unfollowed := true, recurses := true, apart := false, narrowed := true }
def FnNewDeleteGroupsRequestUptoSaid : Prop := fnNewDeleteGroupsRequestUptoRow.holds Try.pinned (OpenSpec.upto fnNewDeleteGroupsRequestSpec)

/-- 'laws.FnNewControlledShutdownResponse', WHERE WHAT IT READS IS OF BULK AT MOST 1048576: true; the input reads as it did. -/
def fnNewControlledShutdownResponseUptoRow : OpenClaim := { program := "ytkhmglikdlgfpaa", sum := "de4ebc0a8f50b69cca234866a6377de2030aed9d6a976638249183dd98bc30c4", func := "pub-kmsg/laws.FnNewControlledShutdownResponse", spec := "fnNewControlledShutdownResponse", inPlace := ["internal/reflectlite.ValueOf", "internal/reflectlite.Swapper", "(internal/reflectlite.Value).Len"], unfollowed := true, recurses := true, apart := false, narrowed := true }
def FnNewControlledShutdownResponseUptoSaid : Prop := fnNewControlledShutdownResponseUptoRow.holds Try.pinned (OpenSpec.upto fnNewControlledShutdownResponseSpec)

/-- 'laws.FnNewDescribeQuorumRequest', WHERE WHAT IT READS IS OF BULK AT MOST 1048576: true; the input reads as it did. -/
def fnNewDescribeQuorumRequestUptoRow : OpenClaim := { program := "ytkhmglikdlgfpaa", sum := "de4ebc0a8f50b69cca234866a6377de2030aed9d6a976638249183dd98bc30c4", func := "pub-kmsg/laws.FnNewDescribeQuorumRequest", spec := "fnNewDescribeQuorumRequest", inPlace := ["internal/reflectlite.ValueOf", "internal/reflectlite.Swapper", "(internal/reflectlite.Value).Len"], unfollowed := true, recurses := true, apart := false, narrowed := true }
def FnNewDescribeQuorumRequestUptoSaid : Prop := fnNewDescribeQuorumRequestUptoRow.holds Try.pinned (OpenSpec.upto fnNewDescribeQuorumRequestSpec)

/-- 'laws.FnNewAlterConfigsResponse', WHERE WHAT IT READS IS OF BULK AT MOST 1048576: true; the input reads as it did. -/
def fnNewAlterConfigsResponseUptoRow : OpenClaim := { program := "ytkhmglikdlgfpaa", sum := "de4ebc0a8f50b69cca234866a6377de2030aed9d6a976638249183dd98bc30c4", func := "pub-kmsg/laws.FnNewAlterConfigsResponse", spec := "fnNewAlterConfigsResponse", inPlace := ["internal/reflectlite.ValueOf", "internal/reflectlite.Swapper", "(internal/reflectlite.Value).Len"], unfollowed := true, recurses := true, apart := false, narrowed := true }
def FnNewAlterConfigsResponseUptoSaid : Prop := fnNewAlterConfigsResponseUptoRow.holds Try.pinned (OpenSpec.upto fnNewAlterConfigsResponseSpec)

/-- 'laws.FnNewAssignReplicasToDirsRequest', WHERE WHAT IT READS IS OF BULK AT MOST 1048576: true; the input reads as it did. -/
def fnNewAssignReplicasToDirsRequestUptoRow : OpenClaim := { program := "ytkhmglikdlgfpaa", sum := "de4ebc0a8f50b69cca234866a6377de2030aed9d6a976638249183dd98bc30c4", func := "pub-kmsg/laws.FnNewAssignReplicasToDirsRequest", spec := "fnNewAssignReplicasToDirsRequest", inPlace := ["internal/reflectlite.ValueOf", "internal/reflectlite.Swapper", "(internal/reflectlite.Value).Len"], unfollowed := true, recurses := true, apart := false, narrowed := true }
def FnNewAssignReplicasToDirsRequestUptoSaid : Prop := fnNewAssignReplicasToDirsRequestUptoRow.holds Try.pinned (OpenSpec.upto fnNewAssignReplicasToDirsRequestSpec)

/-- 'laws.FnNewLeaderAndISRResponse', WHERE WHAT IT READS IS OF BULK AT MOST 1048576: true; the input reads as it did. -/
def fnNewLeaderAndISRResponseUptoRow : OpenClaim := { program := "ytkhmglikdlgfpaa", sum := "de4ebc0a8f50b69cca234866a6377de2030aed9d6a976638249183dd98bc30c4", func := "pub-kmsg/laws.FnNewLeaderAndISRResponse", spec := "fnNewLeaderAndISRResponse", inPlace := ["internal/reflectlite.ValueOf", "internal/reflectlite.Swapper", "(internal/reflectlite.Value).Len"], unfollowed := true, recurses := true, apart := false, narrowed := true }
def FnNewLeaderAndISRResponseUptoSaid : Prop := fnNewLeaderAndISRResponseUptoRow.holds Try.pinned (OpenSpec.upto fnNewLeaderAndISRResponseSpec)

/-- 'laws.FnNewMetadataRequest', WHERE WHAT IT READS IS OF BULK AT MOST 1048576: true; the input reads as it did. -/
def fnNewMetadataRequestUptoRow : OpenClaim := { program := "ytkhmglikdlgfpaa", sum := "de4ebc0a8f50b69cca234866a6377de2030aed9d6a976638249183dd98bc30c4", func := "pub-kmsg/laws.FnNewMetadataRequest", spec := "fnNewMetadataRequest", inPlace := ["internal/reflectlite.ValueOf", "internal/reflectlite.Swapper", "(internal/reflectlite.Value).Len"], unfollowed := true, recurses := true, apart := false, narrowed := true }
def FnNewMetadataRequestUptoSaid : Prop := fnNewMetadataRequestUptoRow.holds Try.pinned (OpenSpec.upto fnNewMetadataRequestSpec)

/-- 'laws.FnNewEndQuorumEpochResponse', WHERE WHAT IT READS IS OF BULK AT MOST 1048576: true; the input reads as it did. -/
def fnNewEndQuorumEpochResponseUptoRow : OpenClaim := { program := "ytkhmglikdlgfpaa", sum := "de4ebc0a8f50b69cca234866a6377de2030aed9d6a976638249183dd98bc30c4", func := "pub-kmsg/laws.FnNewEndQuorumEpochResponse", spec := "fnNewEndQuorumEpochResponse", inPlace := ["internal/reflectlite.ValueOf", "internal/reflectlite.Swapper", "(internal/reflectlite.Value).Len"], unfollowed := true, recurses := true, apart := false, narrowed := true }
def FnNewEndQuorumEpochResponseUptoSaid : Prop := fnNewEndQuorumEpochResponseUptoRow.holds Try.pinned (OpenSpec.upto fnNewEndQuorumEpochResponseSpec)

/-- 'laws.FnNewDescribeClientQuotasResponse', WHERE WHAT IT READS IS OF BULK AT MOST 1048576: true; the input reads as it did. -/
def fnNewDescribeClientQuotasResponseUptoRow : OpenClaim := { program := "ytkhmglikdlgfpaa", sum := "de4ebc0a8f50b69cca234866a6377de2030aed9d6a976638249183dd98bc30c4", func := "pub-kmsg/laws.FnNewDescribeClientQuotasResponse", spec := "fnNewDescribeClientQuotasResponse", inPlace := ["internal/reflectlite.ValueOf", "internal/reflectlite.Swapper", "(internal/reflectlite.Value).Len", "math.Float64bits"], unfollowed := true, recurses := true, apart := false, narrowed := true }
def FnNewDescribeClientQuotasResponseUptoSaid : Prop := fnNewDescribeClientQuotasResponseUptoRow.holds Try.pinned (OpenSpec.upto fnNewDescribeClientQuotasResponseSpec)

/-- 'laws.FnNewShareAcknowledgeRequest', WHERE WHAT IT READS IS OF BULK AT MOST 1048576: true; the input reads as it did. -/
def fnNewShareAcknowledgeRequestUptoRow : OpenClaim := { program := "ytkhmglikdlgfpaa", sum := "de4ebc0a8f50b69cca234866a6377de2030aed9d6a976638249183dd98bc30c4", func := "pub-kmsg/laws.FnNewShareAcknowledgeRequest", spec := "fnNewShareAcknowledgeRequest", inPlace := ["internal/reflectlite.ValueOf", "internal/reflectlite.Swapper", "(internal/reflectlite.Value).Len"], unfollowed := true, recurses := true, apart := false, narrowed := true }
def FnNewShareAcknowledgeRequestUptoSaid : Prop := fnNewShareAcknowledgeRequestUptoRow.holds Try.pinned (OpenSpec.upto fnNewShareAcknowledgeRequestSpec)

/-- 'laws.FnNewUpdateMetadataRequest', WHERE WHAT IT READS IS OF BULK AT MOST 1048576: true; the input reads as it did. -/
def fnNewUpdateMetadataRequestUptoRow : OpenClaim := { program := "ytkhmglikdlgfpaa", sum := "de4ebc0a8f50b69cca234866a6377de2030aed9d6a976638249183dd98bc30c4", func := "pub-kmsg/laws.FnNewUpdateMetadataRequest", spec := "fnNewUpdateMetadataRequest", inPlace := ["internal/reflectlite.ValueOf", "internal/reflectlite.Swapper", "(internal/reflectlite.Value).Len"], unfollowed := true, recurses := true, apart := false, narrowed := true }
def FnNewUpdateMetadataRequestUptoSaid : Prop := fnNewUpdateMetadataRequestUptoRow.holds Try.pinned (OpenSpec.upto fnNewUpdateMetadataRequestSpec)

/-- 'laws.FnNewStreamsGroupHeartbeatResponse', WHERE WHAT IT READS IS OF BULK AT MOST 1048576: true; the input reads as it did. -/
def fnNewStreamsGroupHeartbeatResponseUptoRow : OpenClaim := { program := "ytkhmglikdlgfpaa", sum := "de4ebc0a8f50b69cca234866a6377de2030aed9d6a976638249183dd98bc30c4", func := "pub-kmsg/laws.FnNewStreamsGroupHeartbeatResponse", spec := "fnNewStreamsGroupHeartbeatResponse", inPlace := ["internal/reflectlite.ValueOf", "internal/reflectlite.Swapper", "(internal/reflectlite.Value).Len"], unfollowed := true, recurses := true, apart := false, narrowed := true }
def FnNewStreamsGroupHeartbeatResponseUptoSaid : Prop := fnNewStreamsGroupHeartbeatResponseUptoRow.holds Try.pinned (OpenSpec.upto fnNewStreamsGroupHeartbeatResponseSpec)

end Rows
end Go.Proofs.Ytkhmglikdlgfpaa
