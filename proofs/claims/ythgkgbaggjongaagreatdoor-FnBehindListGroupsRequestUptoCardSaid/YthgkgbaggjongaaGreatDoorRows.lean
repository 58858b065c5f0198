/-
  NARROWER THAN 'FOR EVERY INPUT', by the rows' own cells (each row's printed sentence says how): FnTellAlterPartitionAssignmentsRequest: loops, laid · FnTellDeleteACLsResponse: loops, laid · FnTellAddPartitionsToTxnResponse: loops, laid · FnTellDescribeShareGroupOffsetsResponse: loops, laid · FnTellEndQuorumEpochRequest: loops, laid · FnTellMetadataResponse: loops, laid · FnTellShareGroupDescribeResponse: loops, laid · FnDefaultAlterPartitionRequest: loops, laid · FnBehindListGroupsRequest: loops, laid · FnBehindAlterReplicaLogDirsResponse: loops, laid · FnBehindConsumerGroupHeartbeatRequest: loops, laid.
  DERIVED. THE GIVEN ROWS OF THIS SEAT. 11 by the template 'for every input the law returns true; each argument reads behind the call as it read before'; 0 by the template 'total and deterministic' (their statements: YthgkgbaggjongaaGreatDoorTotals.lean).
  GIVEN WITH THE SEED: the statements are not yours to turn. If you find one false, say at which input.
  Laid BY PROGRAM, IN A SANDBOX (cutbox-rows.mjs): the forced cells as the released guide's own fill.sh prints them over the translation 0b821c793fc6ce13… (all of the seat's roots in one cut). By AI agents, Wed Nov 11 2026. No macro, syntax, notation, axiom, sorry.
-/
import Derived.Test.YthgkgbaggjongaaGreatDoorChecked
import GoSem.Claim
import GoSem.ClaimJoined
import GoSem.ClaimMapViews
import Derived.JoinedTies
import Derived.KernelRfl
namespace Go.Proofs.YthgkgbaggjongaaGreatDoor
/- THE CELL 'sum', in the pinned program and in every row, IS THE sha256 OF THE DUMP (.gsa) THAT YthgkgbaggjongaaGreatDoorProg.lean LOADS. Nothing in Lean hashes anything: it is a label: what it is worth is what the hold of that sum in a sandbox is worth. -/
noncomputable def Tryz.pinned : Pinned := { name := "ythgkgbaggjongaagreatdoor", sum := "0b821c793fc6ce13ea73d9588efb3df2ff660f4eda4b77412649507d62d310d0", checked := Tryz.checked }
namespace Rows
def none {H : Type} : Left H := { results := [], args := [] }

/- WHAT THE LISTED PACKAGE-LEVEL VARIABLES READ AS WHEN THE CALL BEGINS. Each datum BY PROGRAM (the guide's laid-datum.mjs) off the statement by which the dump's own 'gosem.cut.vars' lays the variable. In a bare row this is a premise. The card (YthgkgbaggjongaaGreatDoorCards.lean) ties it to the program's text. -/
def laid_pub_mailsack_pub_kmsg_inner_kbin_ErrNotEnoughData {H : Type} : DataW H := .iface "*errors.errorString" (.ptr (.agg [.lit (.string [114, 101, 115, 112, 111, 110, 115, 101, 32, 100, 105, 100, 32, 110, 111, 116, 32, 99, 111, 110, 116, 97, 105, 110, 32, 101, 110, 111, 117, 103, 104, 32, 100, 97, 116, 97, 32, 116, 111, 32, 98, 101, 32, 118, 97, 108, 105, 100])]))

/-- 'laws.FnTellAlterPartitionAssignmentsRequest': WHATEVER THE INPUT: true; the input reads as it did. -/
def fnTellAlterPartitionAssignmentsRequestSpec : ChangeSpec := { name := "fnTellAlterPartitionAssignmentsRequest", fn := fun _ => fun
  | [d1, d2] => { results := [.lit (.bool true)], args := [d1, d2] }
  | _ => none }
def fnTellAlterPartitionAssignmentsRequestRow : OpenClaim := { program := "ythgkgbaggjongaagreatdoor", sum := "0b821c793fc6ce13ea73d9588efb3df2ff660f4eda4b77412649507d62d310d0", func := "pub-mailsack/laws.FnTellAlterPartitionAssignmentsRequest", spec := "fnTellAlterPartitionAssignmentsRequest", inPlace := ["internal/reflectlite.ValueOf", "internal/reflectlite.Swapper", "(internal/reflectlite.Value).Len"], unfollowed := true, recurses := true, named := ["encoding/binary.BigEndian", "pub-mailsack/pub/kmsg/inner/kbin.ErrNotEnoughData"], loops := true, apart := false, laid := [("pub-mailsack/pub/kmsg/inner/kbin.ErrNotEnoughData", laid_pub_mailsack_pub_kmsg_inner_kbin_ErrNotEnoughData)] }
def FnTellAlterPartitionAssignmentsRequestSaid : Prop := fnTellAlterPartitionAssignmentsRequestRow.holds Tryz.pinned (OpenSpec.ofChange fnTellAlterPartitionAssignmentsRequestSpec)

/-- ITS FALSE NEIGHBOUR: 'it returns false'. Refute it at one input. -/
def fnTellAlterPartitionAssignmentsRequestWrong : ChangeSpec := { name := "fnTellAlterPartitionAssignmentsRequest", fn := fun _ => fun
  | [d1, d2] => { results := [.lit (.bool false)], args := [d1, d2] }
  | _ => none }
def FnTellAlterPartitionAssignmentsRequestWrongFalsely : Prop := fnTellAlterPartitionAssignmentsRequestRow.holds Tryz.pinned (OpenSpec.ofChange fnTellAlterPartitionAssignmentsRequestWrong)

/-- 'laws.FnTellDeleteACLsResponse': WHATEVER THE INPUT: true; the input reads as it did. -/
def fnTellDeleteACLsResponseSpec : ChangeSpec := { name := "fnTellDeleteACLsResponse", fn := fun _ => fun
  | [d1, d2] => { results := [.lit (.bool true)], args := [d1, d2] }
  | _ => none }
def fnTellDeleteACLsResponseRow : OpenClaim := { program := "ythgkgbaggjongaagreatdoor", sum := "0b821c793fc6ce13ea73d9588efb3df2ff660f4eda4b77412649507d62d310d0", func := "pub-mailsack/laws.FnTellDeleteACLsResponse", spec := "fnTellDeleteACLsResponse", inPlace := ["internal/reflectlite.ValueOf", "internal/reflectlite.Swapper", "(internal/reflectlite.Value).Len"], unfollowed := true, recurses := true, named := ["encoding/binary.BigEndian", "pub-mailsack/pub/kmsg/inner/kbin.ErrNotEnoughData"], loops := true, apart := false, laid := [("pub-mailsack/pub/kmsg/inner/kbin.ErrNotEnoughData", laid_pub_mailsack_pub_kmsg_inner_kbin_ErrNotEnoughData)] }
def FnTellDeleteACLsResponseSaid : Prop := fnTellDeleteACLsResponseRow.holds Tryz.pinned (OpenSpec.ofChange fnTellDeleteACLsResponseSpec)

/-- ITS FALSE NEIGHBOUR: 'it returns false'. Refute it at one input. -/
def fnTellDeleteACLsResponseWrong : ChangeSpec := { name := "fnTellDeleteACLsResponse", fn := fun _ => fun
  | [d1, d2] => { results := [.lit (.bool false)], args := [d1, d2] }
  | _ => none }
def FnTellDeleteACLsResponseWrongFalsely : Prop := fnTellDeleteACLsResponseRow.holds Tryz.pinned (OpenSpec.ofChange fnTellDeleteACLsResponseWrong)

/-- 'laws.FnTellAddPartitionsToTxnResponse': WHATEVER THE INPUT: true; the input reads as it did. -/
def fnTellAddPartitionsToTxnResponseSpec : ChangeSpec := { name := "fnTellAddPartitionsToTxnResponse", fn := fun _ => fun
  | [d1, d2] => { results := [.lit (.bool true)], args := [d1, d2] }
  | _ => none }
def fnTellAddPartitionsToTxnResponseRow : OpenClaim := { program := "ythgkgbaggjongaagreatdoor", sum := "0b821c793fc6ce13ea73d9588efb3df2ff660f4eda4b77412649507d62d310d0", func := "pub-mailsack/laws.FnTellAddPartitionsToTxnResponse", spec := "fnTellAddPartitionsToTxnResponse", inPlace := ["internal/reflectlite.ValueOf", "internal/reflectlite.Swapper", "(internal/reflectlite.Value).Len"], unfollowed := true, recurses := true, named := ["encoding/binary.BigEndian", "pub-mailsack/pub/kmsg/inner/kbin.ErrNotEnoughData"], loops := true, apart := false, laid := [("pub-mailsack/pub/kmsg/inner/kbin.ErrNotEnoughData", laid_pub_mailsack_pub_kmsg_inner_kbin_ErrNotEnoughData)] }
def FnTellAddPartitionsToTxnResponseSaid : Prop := fnTellAddPartitionsToTxnResponseRow.holds Tryz.pinned (OpenSpec.ofChange fnTellAddPartitionsToTxnResponseSpec)

/-- ITS FALSE NEIGHBOUR: 'it returns false'. Refute it at one input. -/
def fnTellAddPartitionsToTxnResponseWrong : ChangeSpec := { name := "fnTellAddPartitionsToTxnResponse", fn := fun _ => fun
  | [d1, d2] => { results := [.lit (.bool false)], args := [d1, d2] }
  | _ => none }
def FnTellAddPartitionsToTxnResponseWrongFalsely : Prop := fnTellAddPartitionsToTxnResponseRow.holds Tryz.pinned (OpenSpec.ofChange fnTellAddPartitionsToTxnResponseWrong)

/-- 'laws.FnTellDescribeShareGroupOffsetsResponse': WHATEVER THE INPUT: true; the input reads as it did. -/
def fnTellDescribeShareGroupOffsetsResponseSpec : ChangeSpec := { name := "fnTellDescribeShareGroupOffsetsResponse", fn := fun _ => fun
  | [d1, d2] => { results := [.lit (.bool true)], args := [d1, d2] }
  | _ => none }
def fnTellDescribeShareGroupOffsetsResponseRow : OpenClaim := { program := "ythgkgbaggjongaagreatdoor", sum := "0b821c793fc6ce13ea73d9588efb3df2ff660f4eda4b77412649507d62d310d0", func := "pub-mailsack/laws.FnTellDescribeShareGroupOffsetsResponse", spec := "fnTellDescribeShareGroupOffsetsResponse", inPlace := ["internal/reflectlite.ValueOf", "internal/reflectlite.Swapper", "(internal/reflectlite.Value).Len"], unfollowed := true, recurses := true, named := ["encoding/binary.BigEndian", "pub-mailsack/pub/kmsg/inner/kbin.ErrNotEnoughData"], loops := true, apart := false, laid := [("pub-mailsack/pub/kmsg/inner/kbin.ErrNotEnoughData", laid_pub_mailsack_pub_kmsg_inner_kbin_ErrNotEnoughData)] }
def FnTellDescribeShareGroupOffsetsResponseSaid : Prop := fnTellDescribeShareGroupOffsetsResponseRow.holds Tryz.pinned (OpenSpec.ofChange fnTellDescribeShareGroupOffsetsResponseSpec)

/-- ITS FALSE NEIGHBOUR: 'it returns false'. Refute it at one input. -/
def fnTellDescribeShareGroupOffsetsResponseWrong : ChangeSpec := { name := "fnTellDescribeShareGroupOffsetsResponse", fn := fun _ => fun
  | [d1, d2] => { results := [.lit (.bool false)], args := [d1, d2] }
  | _ => none }
def FnTellDescribeShareGroupOffsetsResponseWrongFalsely : Prop := fnTellDescribeShareGroupOffsetsResponseRow.holds Tryz.pinned (OpenSpec.ofChange fnTellDescribeShareGroupOffsetsResponseWrong)

/-- 'laws.FnTellEndQuorumEpochRequest': WHATEVER THE INPUT: true; the input reads as it did. -/
def fnTellEndQuorumEpochRequestSpec : ChangeSpec := { name := "fnTellEndQuorumEpochRequest", fn := fun _ => fun
  | [d1, d2] => { results := [.lit (.bool true)], args := [d1, d2] }
  | _ => none }
def fnTellEndQuorumEpochRequestRow : OpenClaim := { program := "ythgkgbaggjongaagreatdoor", sum := "0b821c793fc6ce13ea73d9588efb3df2ff660f4eda4b77412649507d62d310d0", func := "pub-mailsack/laws.FnTellEndQuorumEpochRequest", spec := "fnTellEndQuorumEpochRequest", inPlace := ["internal/reflectlite.ValueOf", "internal/reflectlite.Swapper", "(internal/reflectlite.Value).Len"], unfollowed := true, recurses := true, named := ["encoding/binary.BigEndian", "pub-mailsack/pub/kmsg/inner/kbin.ErrNotEnoughData"], loops := true, apart := false, laid := [("pub-mailsack/pub/kmsg/inner/kbin.ErrNotEnoughData", laid_pub_mailsack_pub_kmsg_inner_kbin_ErrNotEnoughData)] }
def FnTellEndQuorumEpochRequestSaid : Prop := fnTellEndQuorumEpochRequestRow.holds Tryz.pinned (OpenSpec.ofChange fnTellEndQuorumEpochRequestSpec)

/-- ITS FALSE NEIGHBOUR: 'it returns false'. Refute it at one input. -/
def fnTellEndQuorumEpochRequestWrong : ChangeSpec := { name := "fnTellEndQuorumEpochRequest", fn := fun _ => fun
  | [d1, d2] => { results := [.lit (.bool false)], args := [d1, d2] }
  | _ => none }
def FnTellEndQuorumEpochRequestWrongFalsely : Prop := fnTellEndQuorumEpochRequestRow.holds Tryz.pinned (OpenSpec.ofChange fnTellEndQuorumEpochRequestWrong)

/-- 'laws.FnTellMetadataResponse': WHATEVER THE INPUT: true; the input reads as it did. -/
def fnTellMetadataResponseSpec : ChangeSpec := { name := "fnTellMetadataResponse", fn := fun _ => fun
  | [d1, d2] => { results := [.lit (.bool true)], args := [d1, d2] }
  | _ => none }
def fnTellMetadataResponseRow : OpenClaim := { program := "ythgkgbaggjongaagreatdoor", sum := "0b821c793fc6ce13ea73d9588efb3df2ff660f4eda4b77412649507d62d310d0", func := "pub-mailsack/laws.FnTellMetadataResponse", spec := "fnTellMetadataResponse", inPlace := ["internal/reflectlite.ValueOf", "internal/reflectlite.Swapper", "(internal/reflectlite.Value).Len"], unfollowed := true, recurses := true, named := ["encoding/binary.BigEndian", "pub-mailsack/pub/kmsg/inner/kbin.ErrNotEnoughData"], loops := true, apart := false, laid := [("pub-mailsack/pub/kmsg/inner/kbin.ErrNotEnoughData", laid_pub_mailsack_pub_kmsg_inner_kbin_ErrNotEnoughData)] }
def FnTellMetadataResponseSaid : Prop := fnTellMetadataResponseRow.holds Tryz.pinned (OpenSpec.ofChange fnTellMetadataResponseSpec)

/-- ITS FALSE NEIGHBOUR: 'it returns false'. Refute it at one input. -/
def fnTellMetadataResponseWrong : ChangeSpec := { name := "fnTellMetadataResponse", fn := fun _ => fun
  | [d1, d2] => { results := [.lit (.bool false)], args := [d1, d2] }
  | _ => none }
def FnTellMetadataResponseWrongFalsely : Prop := fnTellMetadataResponseRow.holds Tryz.pinned (OpenSpec.ofChange fnTellMetadataResponseWrong)

/-- 'laws.FnTellShareGroupDescribeResponse': WHATEVER THE INPUT: true; the input reads as it did. -/
def fnTellShareGroupDescribeResponseSpec : ChangeSpec := { name := "fnTellShareGroupDescribeResponse", fn := fun _ => fun
  | [d1, d2] => { results := [.lit (.bool true)], args := [d1, d2] }
  | _ => none }
def fnTellShareGroupDescribeResponseRow : OpenClaim := { program := "ythgkgbaggjongaagreatdoor", sum := "0b821c793fc6ce13ea73d9588efb3df2ff660f4eda4b77412649507d62d310d0", func := "pub-mailsack/laws.FnTellShareGroupDescribeResponse", spec := "fnTellShareGroupDescribeResponse", inPlace := ["internal/reflectlite.ValueOf", "internal/reflectlite.Swapper", "(internal/reflectlite.Value).Len"], unfollowed := true, recurses := true, named := ["encoding/binary.BigEndian", "pub-mailsack/pub/kmsg/inner/kbin.ErrNotEnoughData"], loops := true, apart := false, laid := [("pub-mailsack/pub/kmsg/inner/kbin.ErrNotEnoughData", laid_pub_mailsack_pub_kmsg_inner_kbin_ErrNotEnoughData)] }
def FnTellShareGroupDescribeResponseSaid : Prop := fnTellShareGroupDescribeResponseRow.holds Tryz.pinned (OpenSpec.ofChange fnTellShareGroupDescribeResponseSpec)

/-- ITS FALSE NEIGHBOUR: 'it returns false'. Refute it at one input. -/
def fnTellShareGroupDescribeResponseWrong : ChangeSpec := { name := "fnTellShareGroupDescribeResponse", fn := fun _ => fun
  | [d1, d2] => { results := [.lit (.bool false)], args := [d1, d2] }
  | _ => none }
def FnTellShareGroupDescribeResponseWrongFalsely : Prop := fnTellShareGroupDescribeResponseRow.holds Tryz.pinned (OpenSpec.ofChange fnTellShareGroupDescribeResponseWrong)

/-- 'laws.FnDefaultAlterPartitionRequest': WHATEVER THE INPUT: true; the input reads as it did. -/
def fnDefaultAlterPartitionRequestSpec : ChangeSpec := { name := "fnDefaultAlterPartitionRequest", fn := fun _ => fun
  | [d1, d2] => { results := [.lit (.bool true)], args := [d1, d2] }
  | _ => none }
def fnDefaultAlterPartitionRequestRow : OpenClaim := { program := "ythgkgbaggjongaagreatdoor", sum := "0b821c793fc6ce13ea73d9588efb3df2ff660f4eda4b77412649507d62d310d0", func := "pub-mailsack/laws.FnDefaultAlterPartitionRequest", spec := "fnDefaultAlterPartitionRequest", inPlace := ["internal/reflectlite.ValueOf", "internal/reflectlite.Swapper", "(internal/reflectlite.Value).Len"], unfollowed := true, recurses := true, named := ["encoding/binary.BigEndian", "pub-mailsack/pub/kmsg/inner/kbin.ErrNotEnoughData"], loops := true, apart := false, laid := [("pub-mailsack/pub/kmsg/inner/kbin.ErrNotEnoughData", laid_pub_mailsack_pub_kmsg_inner_kbin_ErrNotEnoughData)] }
def FnDefaultAlterPartitionRequestSaid : Prop := fnDefaultAlterPartitionRequestRow.holds Tryz.pinned (OpenSpec.ofChange fnDefaultAlterPartitionRequestSpec)

/-- ITS FALSE NEIGHBOUR: 'it returns false'. Refute it at one input. -/
def fnDefaultAlterPartitionRequestWrong : ChangeSpec := { name := "fnDefaultAlterPartitionRequest", fn := fun _ => fun
  | [d1, d2] => { results := [.lit (.bool false)], args := [d1, d2] }
  | _ => none }
def FnDefaultAlterPartitionRequestWrongFalsely : Prop := fnDefaultAlterPartitionRequestRow.holds Tryz.pinned (OpenSpec.ofChange fnDefaultAlterPartitionRequestWrong)

/-- 'laws.FnBehindListGroupsRequest': WHATEVER THE INPUT: true; the input reads as it did. -/
def fnBehindListGroupsRequestSpec : ChangeSpec := { name := "fnBehindListGroupsRequest", fn := fun _ => fun
  | [d1, d2, d3] => { results := [.lit (.bool true)], args := [d1, d2, d3] }
  | _ => none }
def fnBehindListGroupsRequestRow : OpenClaim := { program := "ythgkgbaggjongaagreatdoor", sum := "0b821c793fc6ce13ea73d9588efb3df2ff660f4eda4b77412649507d62d310d0", func := "pub-mailsack/laws.FnBehindListGroupsRequest", spec := "fnBehindListGroupsRequest", inPlace := ["internal/reflectlite.ValueOf", "internal/reflectlite.Swapper", "(internal/reflectlite.Value).Len"], unfollowed := true, recurses := true, named := ["encoding/binary.BigEndian", "pub-mailsack/pub/kmsg/inner/kbin.ErrNotEnoughData"], loops := true, apart := false, laid := [("pub-mailsack/pub/kmsg/inner/kbin.ErrNotEnoughData", laid_pub_mailsack_pub_kmsg_inner_kbin_ErrNotEnoughData)] }
def FnBehindListGroupsRequestSaid : Prop := fnBehindListGroupsRequestRow.holds Tryz.pinned (OpenSpec.ofChange fnBehindListGroupsRequestSpec)

/-- ITS FALSE NEIGHBOUR: 'it returns false'. Refute it at one input. -/
def fnBehindListGroupsRequestWrong : ChangeSpec := { name := "fnBehindListGroupsRequest", fn := fun _ => fun
  | [d1, d2, d3] => { results := [.lit (.bool false)], args := [d1, d2, d3] }
  | _ => none }
def FnBehindListGroupsRequestWrongFalsely : Prop := fnBehindListGroupsRequestRow.holds Tryz.pinned (OpenSpec.ofChange fnBehindListGroupsRequestWrong)

/-- 'laws.FnBehindAlterReplicaLogDirsResponse': WHATEVER THE INPUT: true; the input reads as it did. -/
def fnBehindAlterReplicaLogDirsResponseSpec : ChangeSpec := { name := "fnBehindAlterReplicaLogDirsResponse", fn := fun _ => fun
  | [d1, d2, d3] => { results := [.lit (.bool true)], args := [d1, d2, d3] }
  | _ => none }
def fnBehindAlterReplicaLogDirsResponseRow : OpenClaim := { program := "ythgkgbaggjongaagreatdoor", sum := "0b821c793fc6ce13ea73d9588efb3df2ff660f4eda4b77412649507d62d310d0", func := "pub-mailsack/laws.FnBehindAlterReplicaLogDirsResponse", spec := "fnBehindAlterReplicaLogDirsResponse", inPlace := ["internal/reflectlite.ValueOf", "internal/reflectlite.Swapper", "(internal/reflectlite.Value).Len"], unfollowed := true, recurses := true, named := ["encoding/binary.BigEndian", "pub-mailsack/pub/kmsg/inner/kbin.ErrNotEnoughData"], loops := true, apart := false, laid := [("pub-mailsack/pub/kmsg/inner/kbin.ErrNotEnoughData", laid_pub_mailsack_pub_kmsg_inner_kbin_ErrNotEnoughData)] }
def FnBehindAlterReplicaLogDirsResponseSaid : Prop := fnBehindAlterReplicaLogDirsResponseRow.holds Tryz.pinned (OpenSpec.ofChange fnBehindAlterReplicaLogDirsResponseSpec)

/-- ITS FALSE NEIGHBOUR: 'it returns false'. Refute it at one input. -/
def fnBehindAlterReplicaLogDirsResponseWrong : ChangeSpec := { name := "fnBehindAlterReplicaLogDirsResponse", fn := fun _ => fun
  | [d1, d2, d3] => { results := [.lit (.bool false)], args := [d1, d2, d3] }
  | _ => none }
def FnBehindAlterReplicaLogDirsResponseWrongFalsely : Prop := fnBehindAlterReplicaLogDirsResponseRow.holds Tryz.pinned (OpenSpec.ofChange fnBehindAlterReplicaLogDirsResponseWrong)

/-- 'laws.FnBehindConsumerGroupHeartbeatRequest': WHATEVER THE INPUT: true; the input reads as it did. -/
def fnBehindConsumerGroupHeartbeatRequestSpec : ChangeSpec := { name := "fnBehindConsumerGroupHeartbeatRequest", fn := fun _ => fun
  | [d1, d2, d3] => { results := [.lit (.bool true)], args := [d1, d2, d3] }
  | _ => none }
def fnBehindConsumerGroupHeartbeatRequestRow : OpenClaim := { program := "ythgkgbaggjongaagreatdoor", sum := "0b821c793fc6ce13ea73d9588efb3df2ff660f4eda4b77412649507d62d310d0", func := "pub-mailsack/laws.FnBehindConsumerGroupHeartbeatRequest", spec := "fnBehindConsumerGroupHeartbeatRequest", inPlace := ["internal/reflectlite.ValueOf", "internal/reflectlite.Swapper", "(internal/reflectlite.Value).Len"], unfollowed := true, recurses := true, named := ["encoding/binary.BigEndian", "pub-mailsack/pub/kmsg/inner/kbin.ErrNotEnoughData"], loops := true, apart := false, laid := [("pub-mailsack/pub/kmsg/inner/kbin.ErrNotEnoughData", laid_pub_mailsack_pub_kmsg_inner_kbin_ErrNotEnoughData)] }
def FnBehindConsumerGroupHeartbeatRequestSaid : Prop := fnBehindConsumerGroupHeartbeatRequestRow.holds Tryz.pinned (OpenSpec.ofChange fnBehindConsumerGroupHeartbeatRequestSpec)

/-- ITS FALSE NEIGHBOUR: 'it returns false'. Refute it at one input. -/
def fnBehindConsumerGroupHeartbeatRequestWrong : ChangeSpec := { name := "fnBehindConsumerGroupHeartbeatRequest", fn := fun _ => fun
  | [d1, d2, d3] => { results := [.lit (.bool false)], args := [d1, d2, d3] }
  | _ => none }
def FnBehindConsumerGroupHeartbeatRequestWrongFalsely : Prop := fnBehindConsumerGroupHeartbeatRequestRow.holds Tryz.pinned (OpenSpec.ofChange fnBehindConsumerGroupHeartbeatRequestWrong)

/- THE SECOND FORM. 'bulk': how many values and letters a reading holds, each counted each time it is reached (what is shared counts as often as it is met; a slice's spare places count too). A statement '..UptoSaid' is the law's where the arguments, and the package variables that the reading takes, are together of bulk at most 1048576: NARROWER than '..Said'. Prove '..Said' where nothing that the law and all that it calls make is longer than what came in: it says more and counts as full. Else prove '..UptoSaid'. A law counts once. -/
mutual
def uptoBulk {H : Type} : DataW H → Nat
  | .lit (.string bytes) => bytes.length + 1
  | .lit _ => 1
  | .nil => 1
  | .ptr d => uptoBulk d + 1
  | .slice elems spare => uptoBulkAll elems + uptoBulkAll spare + 1
  | .agg parts => uptoBulkAll parts + 1
  | .iface _ d => uptoBulk d + 1
  | .map entries => uptoBulkEntries entries + 1
  | .held _ => 1
def uptoBulkAll {H : Type} : List (DataW H) → Nat
  | [] => 0
  | d :: r => uptoBulk d + uptoBulkAll r
def uptoBulkEntries {H : Type} : List (Lit × DataW H) → Nat
  | [] => 0
  | x :: r => uptoBulkEntry x + uptoBulkEntries r
def uptoBulkEntry {H : Type} : Lit × DataW H → Nat
  | (.string bytes, d) => bytes.length + uptoBulk d + 1
  | (_, d) => uptoBulk d + 1
 end
def uptoSmall : (H : Type) → List (DataW H) → Bool := fun _ ds => decide (uptoBulkAll ds ≤ 1048576)
def OpenSpec.upto (s : _root_.Go.ChangeSpec) : _root_.Go.OpenSpec := { _root_.Go.OpenSpec.ofChange s with cond := some uptoSmall }

/-- 'laws.FnTellAlterPartitionAssignmentsRequest', WHERE WHAT IT READS IS OF BULK AT MOST 1048576: true; the input reads as it did. -/
def fnTellAlterPartitionAssignmentsRequestUptoRow : OpenClaim := { program := "ythgkgbaggjongaagreatdoor", sum := "0b821c793fc6ce13ea73d9588efb3df2ff660f4eda4b77412649507d62d310d0", func := "pub-mailsack/laws.FnTellAlterPartitionAssignmentsRequest", spec := "fnTellAlterPartitionAssignmentsRequest", inPlace := ["internal/reflectlite.ValueOf", "internal/reflectlite.Swapper", "(internal/reflectlite.Value).Len"], unfollowed := true, recurses := true, named := ["encoding/binary.BigEndian", "pub-mailsack/pub/kmsg/inner/kbin.ErrNotEnoughData"], loops := true, apart := false, laid := [("pub-mailsack/pub/kmsg/inner/kbin.ErrNotEnoughData", laid_pub_mailsack_pub_kmsg_inner_kbin_ErrNotEnoughData)], narrowed := true }
def FnTellAlterPartitionAssignmentsRequestUptoSaid : Prop := fnTellAlterPartitionAssignmentsRequestUptoRow.holds Tryz.pinned (OpenSpec.upto fnTellAlterPartitionAssignmentsRequestSpec)

/-- 'laws.FnTellDeleteACLsResponse', WHERE WHAT IT READS IS OF BULK AT MOST 1048576: true; the input reads as it did. -/
def fnTellDeleteACLsResponseUptoRow : OpenClaim := { program := "ythgkgbaggjongaagreatdoor", sum := "0b821c793fc6ce13ea73d9588efb3df2ff660f4eda4b77412649507d62d310d0", func := "pub-mailsack/laws.FnTellDeleteACLsResponse", spec := "fnTellDeleteACLsResponse", inPlace := ["internal/reflectlite.ValueOf", "internal/reflectlite.Swapper", "(internal/reflectlite.Value).Len"], unfollowed := true, recurses := true, named := ["encoding/binary.BigEndian", "pub-mailsack/pub/kmsg/inner/kbin.ErrNotEnoughData"], loops := true, apart := false, laid := [("pub-mailsack/pub/kmsg/inner/kbin.ErrNotEnoughData", laid_pub_mailsack_pub_kmsg_inner_kbin_ErrNotEnoughData)], narrowed := true }
def FnTellDeleteACLsResponseUptoSaid : Prop := fnTellDeleteACLsResponseUptoRow.holds Tryz.pinned (OpenSpec.upto fnTellDeleteACLsResponseSpec)

/-- 'laws.FnTellAddPartitionsToTxnResponse', WHERE WHAT IT READS IS OF BULK AT MOST 1048576: true; the input reads as it did. -/
def fnTellAddPartitionsToTxnResponseUptoRow : OpenClaim := { program := "ythgkgbaggjongaagreatdoor", sum := "0b821c793fc6ce13ea73d9588efb3df2ff660f4eda4b77412649507d62d310d0", func := "pub-mailsack/laws.FnTellAddPartitionsToTxnResponse", spec := "fnTellAddPartitionsToTxnResponse", inPlace := ["internal/reflectlite.ValueOf", "internal/reflectlite.Swapper", "(internal/reflectlite.Value).Len"], unfollowed := true, recurses := true, named := ["encoding/binary.BigEndian", "pub-mailsack/pub/kmsg/inner/kbin.ErrNotEnoughData"], loops := true, apart := false, laid := [("pub-mailsack/pub/kmsg/inner/kbin.ErrNotEnoughData", laid_pub_mailsack_pub_kmsg_inner_kbin_ErrNotEnoughData)], narrowed := true }
def FnTellAddPartitionsToTxnResponseUptoSaid : Prop := fnTellAddPartitionsToTxnResponseUptoRow.holds Tryz.pinned (OpenSpec.upto fnTellAddPartitionsToTxnResponseSpec)

/-- 'laws.FnTellDescribeShareGroupOffsetsResponse', WHERE WHAT IT READS IS OF BULK AT MOST 1048576: true; the input reads as it did. -/
def fnTellDescribeShareGroupOffsetsResponseUptoRow : OpenClaim := { program := "ythgkgbaggjongaagreatdoor", sum := "0b821c793fc6ce13ea73d9588efb3df2ff660f4eda4b77412649507d62d310d0", func := "pub-mailsack/laws.FnTellDescribeShareGroupOffsetsResponse", spec := "fnTellDescribeShareGroupOffsetsResponse", inPlace := ["internal/reflectlite.ValueOf", "internal/reflectlite.Swapper", "(internal/reflectlite.Value).Len"], unfollowed := true, recurses := true, named := ["encoding/binary.BigEndian", "pub-mailsack/pub/kmsg/inner/kbin.ErrNotEnoughData"], loops := true, apart := false, laid := [("pub-mailsack/pub/kmsg/inner/kbin.ErrNotEnoughData", laid_pub_mailsack_pub_kmsg_inner_kbin_ErrNotEnoughData)], narrowed := true }
def FnTellDescribeShareGroupOffsetsResponseUptoSaid : Prop := fnTellDescribeShareGroupOffsetsResponseUptoRow.holds Tryz.pinned (OpenSpec.upto fnTellDescribeShareGroupOffsetsResponseSpec)

/-- 'laws.FnTellEndQuorumEpochRequest', WHERE WHAT IT READS IS OF BULK AT MOST 1048576: true; the input reads as it did. -/
def fnTellEndQuorumEpochRequestUptoRow : OpenClaim := { program := "ythgkgbaggjongaagreatdoor", sum := "0b821c793fc6ce13ea73d9588efb3df2ff660f4eda4b77412649507d62d310d0", func := "pub-mailsack/laws.FnTellEndQuorumEpochRequest", spec := "fnTellEndQuorumEpochRequest", inPlace := ["internal/reflectlite.ValueOf", "internal/reflectlite.Swapper", "(internal/reflectlite.Value).Len"], unfollowed := true, recurses := true, named := ["encoding/binary.BigEndian", "pub-mailsack/pub/kmsg/inner/kbin.ErrNotEnoughData"], loops := true, apart := false, laid := [("pub-mailsack/pub/kmsg/inner/kbin.ErrNotEnoughData", laid_pub_mailsack_pub_kmsg_inner_kbin_ErrNotEnoughData)], narrowed := true }
def FnTellEndQuorumEpochRequestUptoSaid : Prop := fnTellEndQuorumEpochRequestUptoRow.holds Tryz.pinned (OpenSpec.upto fnTellEndQuorumEpochRequestSpec)

/-- 'laws.FnTellMetadataResponse', WHERE WHAT IT READS IS OF BULK AT MOST 1048576: true; the input reads as it did. -/
def fnTellMetadataResponseUptoRow : OpenClaim := { program := "ythgkgbaggjongaagreatdoor", sum := "0b821c793fc6ce13ea73d9588efb3df2ff660f4eda4b77412649507d62d310d0", func := "pub-mailsack/laws.FnTellMetadataResponse", spec := "fnTellMetadataResponse", inPlace := ["internal/reflectlite.ValueOf", "internal/reflectlite.Swapper", "(internal/reflectlite.Value).Len"], unfollowed := true, recurses := true, named := ["encoding/binary.BigEndian", "pub-mailsack/pub/kmsg/inner/kbin.ErrNotEnoughData"], loops := true, apart := false, laid := [("pub-mailsack/pub/kmsg/inner/kbin.ErrNotEnoughData", laid_pub_mailsack_pub_kmsg_inner_kbin_ErrNotEnoughData)], narrowed := true }
def FnTellMetadataResponseUptoSaid : Prop := fnTellMetadataResponseUptoRow.holds Tryz.pinned (OpenSpec.upto fnTellMetadataResponseSpec)

/-- 'laws.FnTellShareGroupDescribeResponse', WHERE WHAT IT READS IS OF BULK AT MOST 1048576: true; the input reads as it did. -/
def fnTellShareGroupDescribeResponseUptoRow : OpenClaim := { program := "ythgkgbaggjongaagreatdoor", sum := "0b821c793fc6ce13ea73d9588efb3df2ff660f4eda4b77412649507d62d310d0", func := "pub-mailsack/laws.FnTellShareGroupDescribeResponse", spec := "fnTellShareGroupDescribeResponse", inPlace := ["internal/reflectlite.ValueOf", "internal/reflectlite.Swapper", "(internal/reflectlite.Value).Len"], unfollowed := true, recurses := true, named := ["encoding/binary.BigEndian", "pub-mailsack/pub/kmsg/inner/kbin.ErrNotEnoughData"], loops := true, apart := false, laid := [("pub-mailsack/pub/kmsg/inner/kbin.ErrNotEnoughData", laid_pub_mailsack_pub_kmsg_inner_kbin_ErrNotEnoughData)], narrowed := true }
def FnTellShareGroupDescribeResponseUptoSaid : Prop := fnTellShareGroupDescribeResponseUptoRow.holds Tryz.pinned (OpenSpec.upto fnTellShareGroupDescribeResponseSpec)

/-- 'laws.FnDefaultAlterPartitionRequest', WHERE WHAT IT READS IS OF BULK AT MOST 1048576: true; the input reads as it did. -/
def fnDefaultAlterPartitionRequestUptoRow : OpenClaim := { program := "ythgkgbaggjongaagreatdoor", sum := "0b821c793fc6ce13ea73d9588efb3df2ff660f4eda4b77412649507d62d310d0", func := "pub-mailsack/laws.FnDefaultAlterPartitionRequest", spec := "fnDefaultAlterPartitionRequest", inPlace := ["internal/reflectlite.ValueOf", "internal/reflectlite.Swapper", "(internal/reflectlite.Value).Len"], unfollowed := true, recurses := true, named := ["encoding/binary.BigEndian", "pub-mailsack/pub/kmsg/inner/kbin.ErrNotEnoughData"], loops := true, apart := false, laid := [("pub-mailsack/pub/kmsg/inner/kbin.ErrNotEnoughData", laid_pub_mailsack_pub_kmsg_inner_kbin_ErrNotEnoughData)], narrowed := true }
def FnDefaultAlterPartitionRequestUptoSaid : Prop := fnDefaultAlterPartitionRequestUptoRow.holds Tryz.pinned (OpenSpec.upto fnDefaultAlterPartitionRequestSpec)

/-- 'laws.FnBehindListGroupsRequest', WHERE WHAT IT READS IS OF BULK AT MOST 1048576: true; the input reads as it did. -/
def fnBehindListGroupsRequestUptoRow : OpenClaim := { program := "ythgkgbaggjongaagreatdoor", sum := "0b821c793fc6ce13ea73d9588efb3df2ff660f4eda4b77412649507d62d310d0", func := "pub-mailsack/laws.FnBehindListGroupsRequest", spec := "fnBehindListGroupsRequest", inPlace := ["internal/reflectlite.ValueOf", "internal/reflectlite.Swapper", "(internal/reflectlite.Value).Len"], unfollowed := true, recurses := true, named := ["encoding/binary.BigEndian", "pub-mailsack/pub/kmsg/inner/kbin.ErrNotEnoughData"], loops := true, apart := false, laid := [("pub-mailsack/pub/kmsg/inner/kbin.ErrNotEnoughData", laid_pub_mailsack_pub_kmsg_inner_kbin_ErrNotEnoughData)], narrowed := true }
def FnBehindListGroupsRequestUptoSaid : Prop := fnBehindListGroupsRequestUptoRow.holds Tryz.pinned (OpenSpec.upto fnBehindListGroupsRequestSpec)

/-- 'laws.FnBehindAlterReplicaLogDirsResponse', WHERE WHAT IT READS IS OF BULK AT MOST 1048576: true; the input reads as it did. -/
def fnBehindAlterReplicaLogDirsResponseUptoRow : OpenClaim := { program := "ythgkgbaggjongaagreatdoor", sum := "0b821c793fc6ce13ea73d9588efb3df2ff660f4eda4b77412649507d62d310d0", func := "pub-mailsack/laws.FnBehindAlterReplicaLogDirsResponse", spec := "fnBehindAlterReplicaLogDirsResponse", inPlace := ["internal/reflectlite.ValueOf", "internal/reflectlite.Swapper", "(internal/reflectlite.Value).Len"], unfollowed := true, recurses := true, named := ["encoding/binary.BigEndian", "pub-mailsack/pub/kmsg/inner/kbin.ErrNotEnoughData"], loops := true, apart := false, laid := [("pub-mailsack/pub/kmsg/inner/kbin.ErrNotEnoughData", laid_pub_mailsack_pub_kmsg_inner_kbin_ErrNotEnoughData)], narrowed := true }
def FnBehindAlterReplicaLogDirsResponseUptoSaid : Prop := fnBehindAlterReplicaLogDirsResponseUptoRow.holds Tryz.pinned (OpenSpec.upto fnBehindAlterReplicaLogDirsResponseSpec)

/-- 'laws.FnBehindConsumerGroupHeartbeatRequest', WHERE WHAT IT READS IS OF BULK AT MOST 1048576: true; the input reads as it did. -/
def fnBehindConsumerGroupHeartbeatRequestUptoRow : OpenClaim := { program := "ythgkgbaggjongaagreatdoor", sum := "0b821c793fc6ce13ea73d9588efb3df2ff660f4eda4b77412649507d62d310d0", func := "pub-mailsack/laws.FnBehindConsumerGroupHeartbeatRequest", spec := "fnBehindConsumerGroupHeartbeatRequest", inPlace := ["internal/reflectlite.ValueOf", "internal/reflectlite.Swapper", "(internal/reflectlite.Value).Len"], unfollowed := true, recurses := true, named := ["encoding/binary.BigEndian", "pub-mailsack/pub/kmsg/inner/kbin.ErrNotEnoughData"], loops := true, apart := false, laid := [("pub-mailsack/pub/kmsg/inner/kbin.ErrNotEnoughData", laid_pub_mailsack_pub_kmsg_inner_kbin_ErrNotEnoughData)], narrowed := true }
def FnBehindConsumerGroupHeartbeatRequestUptoSaid : Prop := fnBehindConsumerGroupHeartbeatRequestUptoRow.holds Tryz.pinned (OpenSpec.upto fnBehindConsumerGroupHeartbeatRequestSpec)

end Rows
end Go.Proofs.YthgkgbaggjongaaGreatDoor
