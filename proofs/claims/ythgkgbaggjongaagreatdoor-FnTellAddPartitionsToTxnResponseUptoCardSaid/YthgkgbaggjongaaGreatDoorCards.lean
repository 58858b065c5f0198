/-
  DERIVED. GIVEN WITH THE SEED: THE CARDS: each row of YthgkgbaggjongaaGreatDoorRows.lean that lists a variable, with what it lists TIED to the program's text (the seventh form; the later family's looks); each row that meets fmt, with fmt's text TOLD by the authors' own Lean function (tested against real Go, not proved from fmt's source: count such statements apart). THE CARD IS WHAT COUNTS. Prove the row's statement (the work); the ties are given (YthgkgbaggjongaaGreatDoorTie.lean); close each card by the builder's one call (the guide's Derived/Test/ToyasCard.lean, 'card_holds'). Laid BY PROGRAM, IN A SANDBOX (cutbox-door.mjs). By AI agents, Wed Nov 11 2026. No macro, syntax, notation, axiom, sorry.
-/
import Derived.Test.YthgkgbaggjongaaGreatDoorRows
import GoSem.ClaimSeven
namespace Go.Proofs.YthgkgbaggjongaaGreatDoor
namespace Rows

/-- THE TIED CARD OF 'laws.FnTellAlterPartitionAssignmentsRequest'. -/
def fnTellAlterPartitionAssignmentsRequestCard : Claim7 := { stood := { row := fnTellAlterPartitionAssignmentsRequestRow, standIns := [], harness := (true, "c100c6e3f96eb9149b1ddac92c5f5383cc07f52b2507fd535ba387130a685f4b"), looks := false }, kinds := [], alts := [], laidByText := true, laidKinds := [.sentinel], laidTests := true, laidLooks := .later }
def FnTellAlterPartitionAssignmentsRequestCardSaid : Prop := Claim7.holds Tryz.pinned (.plain (OpenSpec.ofChange fnTellAlterPartitionAssignmentsRequestSpec)) fnTellAlterPartitionAssignmentsRequestCard

/-- THE TIED CARD OF 'laws.FnTellDeleteACLsResponse'. -/
def fnTellDeleteACLsResponseCard : Claim7 := { stood := { row := fnTellDeleteACLsResponseRow, standIns := [], harness := (true, "c100c6e3f96eb9149b1ddac92c5f5383cc07f52b2507fd535ba387130a685f4b"), looks := false }, kinds := [], alts := [], laidByText := true, laidKinds := [.sentinel], laidTests := true, laidLooks := .later }
def FnTellDeleteACLsResponseCardSaid : Prop := Claim7.holds Tryz.pinned (.plain (OpenSpec.ofChange fnTellDeleteACLsResponseSpec)) fnTellDeleteACLsResponseCard

/-- THE TIED CARD OF 'laws.FnTellAddPartitionsToTxnResponse'. -/
def fnTellAddPartitionsToTxnResponseCard : Claim7 := { stood := { row := fnTellAddPartitionsToTxnResponseRow, standIns := [], harness := (true, "c100c6e3f96eb9149b1ddac92c5f5383cc07f52b2507fd535ba387130a685f4b"), looks := false }, kinds := [], alts := [], laidByText := true, laidKinds := [.sentinel], laidTests := true, laidLooks := .later }
def FnTellAddPartitionsToTxnResponseCardSaid : Prop := Claim7.holds Tryz.pinned (.plain (OpenSpec.ofChange fnTellAddPartitionsToTxnResponseSpec)) fnTellAddPartitionsToTxnResponseCard

/-- THE TIED CARD OF 'laws.FnTellDescribeShareGroupOffsetsResponse'. -/
def fnTellDescribeShareGroupOffsetsResponseCard : Claim7 := { stood := { row := fnTellDescribeShareGroupOffsetsResponseRow, standIns := [], harness := (true, "c100c6e3f96eb9149b1ddac92c5f5383cc07f52b2507fd535ba387130a685f4b"), looks := false }, kinds := [], alts := [], laidByText := true, laidKinds := [.sentinel], laidTests := true, laidLooks := .later }
def FnTellDescribeShareGroupOffsetsResponseCardSaid : Prop := Claim7.holds Tryz.pinned (.plain (OpenSpec.ofChange fnTellDescribeShareGroupOffsetsResponseSpec)) fnTellDescribeShareGroupOffsetsResponseCard

/-- THE TIED CARD OF 'laws.FnTellEndQuorumEpochRequest'. -/
def fnTellEndQuorumEpochRequestCard : Claim7 := { stood := { row := fnTellEndQuorumEpochRequestRow, standIns := [], harness := (true, "c100c6e3f96eb9149b1ddac92c5f5383cc07f52b2507fd535ba387130a685f4b"), looks := false }, kinds := [], alts := [], laidByText := true, laidKinds := [.sentinel], laidTests := true, laidLooks := .later }
def FnTellEndQuorumEpochRequestCardSaid : Prop := Claim7.holds Tryz.pinned (.plain (OpenSpec.ofChange fnTellEndQuorumEpochRequestSpec)) fnTellEndQuorumEpochRequestCard

/-- THE TIED CARD OF 'laws.FnTellMetadataResponse'. -/
def fnTellMetadataResponseCard : Claim7 := { stood := { row := fnTellMetadataResponseRow, standIns := [], harness := (true, "c100c6e3f96eb9149b1ddac92c5f5383cc07f52b2507fd535ba387130a685f4b"), looks := false }, kinds := [], alts := [], laidByText := true, laidKinds := [.sentinel], laidTests := true, laidLooks := .later }
def FnTellMetadataResponseCardSaid : Prop := Claim7.holds Tryz.pinned (.plain (OpenSpec.ofChange fnTellMetadataResponseSpec)) fnTellMetadataResponseCard

/-- THE TIED CARD OF 'laws.FnTellShareGroupDescribeResponse'. -/
def fnTellShareGroupDescribeResponseCard : Claim7 := { stood := { row := fnTellShareGroupDescribeResponseRow, standIns := [], harness := (true, "c100c6e3f96eb9149b1ddac92c5f5383cc07f52b2507fd535ba387130a685f4b"), looks := false }, kinds := [], alts := [], laidByText := true, laidKinds := [.sentinel], laidTests := true, laidLooks := .later }
def FnTellShareGroupDescribeResponseCardSaid : Prop := Claim7.holds Tryz.pinned (.plain (OpenSpec.ofChange fnTellShareGroupDescribeResponseSpec)) fnTellShareGroupDescribeResponseCard

/-- THE TIED CARD OF 'laws.FnDefaultAlterPartitionRequest'. -/
def fnDefaultAlterPartitionRequestCard : Claim7 := { stood := { row := fnDefaultAlterPartitionRequestRow, standIns := [], harness := (true, "c100c6e3f96eb9149b1ddac92c5f5383cc07f52b2507fd535ba387130a685f4b"), looks := false }, kinds := [], alts := [], laidByText := true, laidKinds := [.sentinel], laidTests := true, laidLooks := .later }
def FnDefaultAlterPartitionRequestCardSaid : Prop := Claim7.holds Tryz.pinned (.plain (OpenSpec.ofChange fnDefaultAlterPartitionRequestSpec)) fnDefaultAlterPartitionRequestCard

/-- THE TIED CARD OF 'laws.FnBehindListGroupsRequest'. -/
def fnBehindListGroupsRequestCard : Claim7 := { stood := { row := fnBehindListGroupsRequestRow, standIns := [], harness := (true, "c100c6e3f96eb9149b1ddac92c5f5383cc07f52b2507fd535ba387130a685f4b"), looks := false }, kinds := [], alts := [], laidByText := true, laidKinds := [.sentinel], laidTests := true, laidLooks := .later }
def FnBehindListGroupsRequestCardSaid : Prop := Claim7.holds Tryz.pinned (.plain (OpenSpec.ofChange fnBehindListGroupsRequestSpec)) fnBehindListGroupsRequestCard

/-- THE TIED CARD OF 'laws.FnBehindAlterReplicaLogDirsResponse'. -/
def fnBehindAlterReplicaLogDirsResponseCard : Claim7 := { stood := { row := fnBehindAlterReplicaLogDirsResponseRow, standIns := [], harness := (true, "c100c6e3f96eb9149b1ddac92c5f5383cc07f52b2507fd535ba387130a685f4b"), looks := false }, kinds := [], alts := [], laidByText := true, laidKinds := [.sentinel], laidTests := true, laidLooks := .later }
def FnBehindAlterReplicaLogDirsResponseCardSaid : Prop := Claim7.holds Tryz.pinned (.plain (OpenSpec.ofChange fnBehindAlterReplicaLogDirsResponseSpec)) fnBehindAlterReplicaLogDirsResponseCard

/-- THE TIED CARD OF 'laws.FnBehindConsumerGroupHeartbeatRequest'. -/
def fnBehindConsumerGroupHeartbeatRequestCard : Claim7 := { stood := { row := fnBehindConsumerGroupHeartbeatRequestRow, standIns := [], harness := (true, "c100c6e3f96eb9149b1ddac92c5f5383cc07f52b2507fd535ba387130a685f4b"), looks := false }, kinds := [], alts := [], laidByText := true, laidKinds := [.sentinel], laidTests := true, laidLooks := .later }
def FnBehindConsumerGroupHeartbeatRequestCardSaid : Prop := Claim7.holds Tryz.pinned (.plain (OpenSpec.ofChange fnBehindConsumerGroupHeartbeatRequestSpec)) fnBehindConsumerGroupHeartbeatRequestCard

/-- THE SECOND FORM's CARD OF 'laws.FnTellAlterPartitionAssignmentsRequest'. -/
def fnTellAlterPartitionAssignmentsRequestUptoCard : Claim7 := { stood := { row := fnTellAlterPartitionAssignmentsRequestUptoRow, standIns := [], harness := (true, "c100c6e3f96eb9149b1ddac92c5f5383cc07f52b2507fd535ba387130a685f4b"), looks := false }, kinds := [], alts := [], laidByText := true, laidKinds := [.sentinel], laidTests := true, laidLooks := .later }
def FnTellAlterPartitionAssignmentsRequestUptoCardSaid : Prop := Claim7.holds Tryz.pinned (.plain (OpenSpec.upto fnTellAlterPartitionAssignmentsRequestSpec)) fnTellAlterPartitionAssignmentsRequestUptoCard

/-- THE SECOND FORM's CARD OF 'laws.FnTellDeleteACLsResponse'. -/
def fnTellDeleteACLsResponseUptoCard : Claim7 := { stood := { row := fnTellDeleteACLsResponseUptoRow, standIns := [], harness := (true, "c100c6e3f96eb9149b1ddac92c5f5383cc07f52b2507fd535ba387130a685f4b"), looks := false }, kinds := [], alts := [], laidByText := true, laidKinds := [.sentinel], laidTests := true, laidLooks := .later }
def FnTellDeleteACLsResponseUptoCardSaid : Prop := Claim7.holds Tryz.pinned (.plain (OpenSpec.upto fnTellDeleteACLsResponseSpec)) fnTellDeleteACLsResponseUptoCard

/-- THE SECOND FORM's CARD OF 'laws.FnTellAddPartitionsToTxnResponse'. -/
def fnTellAddPartitionsToTxnResponseUptoCard : Claim7 := { stood := { row := fnTellAddPartitionsToTxnResponseUptoRow, standIns := [], harness := (true, "c100c6e3f96eb9149b1ddac92c5f5383cc07f52b2507fd535ba387130a685f4b"), looks := false }, kinds := [], alts := [], laidByText := true, laidKinds := [.sentinel], laidTests := true, laidLooks := .later }
def FnTellAddPartitionsToTxnResponseUptoCardSaid : Prop := Claim7.holds Tryz.pinned (.plain (OpenSpec.upto fnTellAddPartitionsToTxnResponseSpec)) fnTellAddPartitionsToTxnResponseUptoCard

/-- THE SECOND FORM's CARD OF 'laws.FnTellDescribeShareGroupOffsetsResponse'. -/
def fnTellDescribeShareGroupOffsetsResponseUptoCard : Claim7 := { stood := { row := fnTellDescribeShareGroupOffsetsResponseUptoRow, standIns := [], harness := (true, "c100c6e3f96eb9149b1ddac92c5f5383cc07f52b2507fd535ba387130a685f4b"), looks := false }, kinds := [], alts := [], laidByText := true, laidKinds := [.sentinel], laidTests := true, laidLooks := .later }
def FnTellDescribeShareGroupOffsetsResponseUptoCardSaid : Prop := Claim7.holds Tryz.pinned (.plain (OpenSpec.upto fnTellDescribeShareGroupOffsetsResponseSpec)) fnTellDescribeShareGroupOffsetsResponseUptoCard

/-- THE SECOND FORM's CARD OF 'laws.FnTellEndQuorumEpochRequest'. -/
def fnTellEndQuorumEpochRequestUptoCard : Claim7 := { stood := { row := fnTellEndQuorumEpochRequestUptoRow, standIns := [], harness := (true, "c100c6e3f96eb9149b1ddac92c5f5383cc07f52b2507fd535ba387130a685f4b"), looks := false }, kinds := [], alts := [], laidByText := true, laidKinds := [.sentinel], laidTests := true, laidLooks := .later }
def FnTellEndQuorumEpochRequestUptoCardSaid : Prop := Claim7.holds Tryz.pinned (.plain (OpenSpec.upto fnTellEndQuorumEpochRequestSpec)) fnTellEndQuorumEpochRequestUptoCard

/-- THE SECOND FORM's CARD OF 'laws.FnTellMetadataResponse'. -/
def fnTellMetadataResponseUptoCard : Claim7 := { stood := { row := fnTellMetadataResponseUptoRow, standIns := [], harness := (true, "c100c6e3f96eb9149b1ddac92c5f5383cc07f52b2507fd535ba387130a685f4b"), looks := false }, kinds := [], alts := [], laidByText := true, laidKinds := [.sentinel], laidTests := true, laidLooks := .later }
def FnTellMetadataResponseUptoCardSaid : Prop := Claim7.holds Tryz.pinned (.plain (OpenSpec.upto fnTellMetadataResponseSpec)) fnTellMetadataResponseUptoCard

/-- THE SECOND FORM's CARD OF 'laws.FnTellShareGroupDescribeResponse'. -/
def fnTellShareGroupDescribeResponseUptoCard : Claim7 := { stood := { row := fnTellShareGroupDescribeResponseUptoRow, standIns := [], harness := (true, "c100c6e3f96eb9149b1ddac92c5f5383cc07f52b2507fd535ba387130a685f4b"), looks := false }, kinds := [], alts := [], laidByText := true, laidKinds := [.sentinel], laidTests := true, laidLooks := .later }
def FnTellShareGroupDescribeResponseUptoCardSaid : Prop := Claim7.holds Tryz.pinned (.plain (OpenSpec.upto fnTellShareGroupDescribeResponseSpec)) fnTellShareGroupDescribeResponseUptoCard

/-- THE SECOND FORM's CARD OF 'laws.FnDefaultAlterPartitionRequest'. -/
def fnDefaultAlterPartitionRequestUptoCard : Claim7 := { stood := { row := fnDefaultAlterPartitionRequestUptoRow, standIns := [], harness := (true, "c100c6e3f96eb9149b1ddac92c5f5383cc07f52b2507fd535ba387130a685f4b"), looks := false }, kinds := [], alts := [], laidByText := true, laidKinds := [.sentinel], laidTests := true, laidLooks := .later }
def FnDefaultAlterPartitionRequestUptoCardSaid : Prop := Claim7.holds Tryz.pinned (.plain (OpenSpec.upto fnDefaultAlterPartitionRequestSpec)) fnDefaultAlterPartitionRequestUptoCard

/-- THE SECOND FORM's CARD OF 'laws.FnBehindListGroupsRequest'. -/
def fnBehindListGroupsRequestUptoCard : Claim7 := { stood := { row := fnBehindListGroupsRequestUptoRow, standIns := [], harness := (true, "c100c6e3f96eb9149b1ddac92c5f5383cc07f52b2507fd535ba387130a685f4b"), looks := false }, kinds := [], alts := [], laidByText := true, laidKinds := [.sentinel], laidTests := true, laidLooks := .later }
def FnBehindListGroupsRequestUptoCardSaid : Prop := Claim7.holds Tryz.pinned (.plain (OpenSpec.upto fnBehindListGroupsRequestSpec)) fnBehindListGroupsRequestUptoCard

/-- THE SECOND FORM's CARD OF 'laws.FnBehindAlterReplicaLogDirsResponse'. -/
def fnBehindAlterReplicaLogDirsResponseUptoCard : Claim7 := { stood := { row := fnBehindAlterReplicaLogDirsResponseUptoRow, standIns := [], harness := (true, "c100c6e3f96eb9149b1ddac92c5f5383cc07f52b2507fd535ba387130a685f4b"), looks := false }, kinds := [], alts := [], laidByText := true, laidKinds := [.sentinel], laidTests := true, laidLooks := .later }
def FnBehindAlterReplicaLogDirsResponseUptoCardSaid : Prop := Claim7.holds Tryz.pinned (.plain (OpenSpec.upto fnBehindAlterReplicaLogDirsResponseSpec)) fnBehindAlterReplicaLogDirsResponseUptoCard

/-- THE SECOND FORM's CARD OF 'laws.FnBehindConsumerGroupHeartbeatRequest'. -/
def fnBehindConsumerGroupHeartbeatRequestUptoCard : Claim7 := { stood := { row := fnBehindConsumerGroupHeartbeatRequestUptoRow, standIns := [], harness := (true, "c100c6e3f96eb9149b1ddac92c5f5383cc07f52b2507fd535ba387130a685f4b"), looks := false }, kinds := [], alts := [], laidByText := true, laidKinds := [.sentinel], laidTests := true, laidLooks := .later }
def FnBehindConsumerGroupHeartbeatRequestUptoCardSaid : Prop := Claim7.holds Tryz.pinned (.plain (OpenSpec.upto fnBehindConsumerGroupHeartbeatRequestSpec)) fnBehindConsumerGroupHeartbeatRequestUptoCard
end Rows
end Go.Proofs.YthgkgbaggjongaaGreatDoor
