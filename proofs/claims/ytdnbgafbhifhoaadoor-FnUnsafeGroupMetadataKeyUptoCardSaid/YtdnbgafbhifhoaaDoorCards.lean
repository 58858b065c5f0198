/-
  DERIVED. GIVEN WITH THE SEED: THE CARDS: each row of YtdnbgafbhifhoaaDoorRows.lean that lists a variable, with what it lists TIED to the program's text (the seventh form; the later family's looks); each row that meets fmt, with fmt's text TOLD by the authors' own Lean function (tested against real Go, not proved from fmt's source: count such statements apart). THE CARD IS WHAT COUNTS. Prove the row's statement (the work); the ties are given (YtdnbgafbhifhoaaDoorTie.lean); close each card by the builder's one call (the guide's Derived/Test/ToyasCard.lean, 'card_holds'). Laid BY PROGRAM, IN A SANDBOX (cutbox-door.mjs). By AI agents, Wed Nov 11 2026. No macro, syntax, notation, axiom, sorry.
-/
import Derived.Test.YtdnbgafbhifhoaaDoorRows
import GoSem.ClaimSeven
namespace Go.Proofs.YtdnbgafbhifhoaaDoor
namespace Rows

/-- THE TIED CARD OF 'laws.FnUnsafeGroupMetadataKey'. -/
def fnUnsafeGroupMetadataKeyCard : Claim7 := { stood := { row := fnUnsafeGroupMetadataKeyRow, standIns := [], harness := (true, "efc3e5381a5cc5b4f1b9a9be919091187ff5a9e081aa22e8d40f7c5c32ed140c"), looks := false }, kinds := [], alts := [], laidByText := true, laidKinds := [.sentinel], laidTests := true, laidLooks := .later }
def FnUnsafeGroupMetadataKeyCardSaid : Prop := Claim7.holds Tryd.pinned (.plain (OpenSpec.ofChange fnUnsafeGroupMetadataKeySpec)) fnUnsafeGroupMetadataKeyCard

/-- THE TIED CARD OF 'laws.FnUnsafeLeaveGroupResponse'. -/
def fnUnsafeLeaveGroupResponseCard : Claim7 := { stood := { row := fnUnsafeLeaveGroupResponseRow, standIns := [], harness := (true, "efc3e5381a5cc5b4f1b9a9be919091187ff5a9e081aa22e8d40f7c5c32ed140c"), looks := false }, kinds := [], alts := [], laidByText := true, laidKinds := [.sentinel], laidTests := true, laidLooks := .later }
def FnUnsafeLeaveGroupResponseCardSaid : Prop := Claim7.holds Tryd.pinned (.plain (OpenSpec.ofChange fnUnsafeLeaveGroupResponseSpec)) fnUnsafeLeaveGroupResponseCard

/-- THE TIED CARD OF 'laws.FnUnsafeDeleteRecordsRequest'. -/
def fnUnsafeDeleteRecordsRequestCard : Claim7 := { stood := { row := fnUnsafeDeleteRecordsRequestRow, standIns := [], harness := (true, "efc3e5381a5cc5b4f1b9a9be919091187ff5a9e081aa22e8d40f7c5c32ed140c"), looks := false }, kinds := [], alts := [], laidByText := true, laidKinds := [.sentinel], laidTests := true, laidLooks := .later }
def FnUnsafeDeleteRecordsRequestCardSaid : Prop := Claim7.holds Tryd.pinned (.plain (OpenSpec.ofChange fnUnsafeDeleteRecordsRequestSpec)) fnUnsafeDeleteRecordsRequestCard

/-- THE TIED CARD OF 'laws.FnUnsafeCreateDelegationTokenResponse'. -/
def fnUnsafeCreateDelegationTokenResponseCard : Claim7 := { stood := { row := fnUnsafeCreateDelegationTokenResponseRow, standIns := [], harness := (true, "efc3e5381a5cc5b4f1b9a9be919091187ff5a9e081aa22e8d40f7c5c32ed140c"), looks := false }, kinds := [], alts := [], laidByText := true, laidKinds := [.sentinel], laidTests := true, laidLooks := .later }
def FnUnsafeCreateDelegationTokenResponseCardSaid : Prop := Claim7.holds Tryd.pinned (.plain (OpenSpec.ofChange fnUnsafeCreateDelegationTokenResponseSpec)) fnUnsafeCreateDelegationTokenResponseCard

/-- THE TIED CARD OF 'laws.FnUnsafeCreateACLsRequest'. -/
def fnUnsafeCreateACLsRequestCard : Claim7 := { stood := { row := fnUnsafeCreateACLsRequestRow, standIns := [], harness := (true, "efc3e5381a5cc5b4f1b9a9be919091187ff5a9e081aa22e8d40f7c5c32ed140c"), looks := false }, kinds := [], alts := [], laidByText := true, laidKinds := [.sentinel], laidTests := true, laidLooks := .later }
def FnUnsafeCreateACLsRequestCardSaid : Prop := Claim7.holds Tryd.pinned (.plain (OpenSpec.ofChange fnUnsafeCreateACLsRequestSpec)) fnUnsafeCreateACLsRequestCard

/-- THE TIED CARD OF 'laws.FnUnsafeListTransactionsRequest'. -/
def fnUnsafeListTransactionsRequestCard : Claim7 := { stood := { row := fnUnsafeListTransactionsRequestRow, standIns := [], harness := (true, "efc3e5381a5cc5b4f1b9a9be919091187ff5a9e081aa22e8d40f7c5c32ed140c"), looks := false }, kinds := [], alts := [], laidByText := true, laidKinds := [.sentinel], laidTests := true, laidLooks := .later }
def FnUnsafeListTransactionsRequestCardSaid : Prop := Claim7.holds Tryd.pinned (.plain (OpenSpec.ofChange fnUnsafeListTransactionsRequestSpec)) fnUnsafeListTransactionsRequestCard

/-- THE TIED CARD OF 'laws.FnUnsafeDeleteTopicsRequest'. -/
def fnUnsafeDeleteTopicsRequestCard : Claim7 := { stood := { row := fnUnsafeDeleteTopicsRequestRow, standIns := [], harness := (true, "efc3e5381a5cc5b4f1b9a9be919091187ff5a9e081aa22e8d40f7c5c32ed140c"), looks := false }, kinds := [], alts := [], laidByText := true, laidKinds := [.sentinel], laidTests := true, laidLooks := .later }
def FnUnsafeDeleteTopicsRequestCardSaid : Prop := Claim7.holds Tryd.pinned (.plain (OpenSpec.ofChange fnUnsafeDeleteTopicsRequestSpec)) fnUnsafeDeleteTopicsRequestCard

/-- THE TIED CARD OF 'laws.FnUnsafeListOffsetsResponse'. -/
def fnUnsafeListOffsetsResponseCard : Claim7 := { stood := { row := fnUnsafeListOffsetsResponseRow, standIns := [], harness := (true, "efc3e5381a5cc5b4f1b9a9be919091187ff5a9e081aa22e8d40f7c5c32ed140c"), looks := false }, kinds := [], alts := [], laidByText := true, laidKinds := [.sentinel], laidTests := true, laidLooks := .later }
def FnUnsafeListOffsetsResponseCardSaid : Prop := Claim7.holds Tryd.pinned (.plain (OpenSpec.ofChange fnUnsafeListOffsetsResponseSpec)) fnUnsafeListOffsetsResponseCard

/-- THE TIED CARD OF 'laws.FnUnsafeBeginQuorumEpochRequest'. -/
def fnUnsafeBeginQuorumEpochRequestCard : Claim7 := { stood := { row := fnUnsafeBeginQuorumEpochRequestRow, standIns := [], harness := (true, "efc3e5381a5cc5b4f1b9a9be919091187ff5a9e081aa22e8d40f7c5c32ed140c"), looks := false }, kinds := [], alts := [], laidByText := true, laidKinds := [.sentinel], laidTests := true, laidLooks := .later }
def FnUnsafeBeginQuorumEpochRequestCardSaid : Prop := Claim7.holds Tryd.pinned (.plain (OpenSpec.ofChange fnUnsafeBeginQuorumEpochRequestSpec)) fnUnsafeBeginQuorumEpochRequestCard

/-- THE TIED CARD OF 'laws.FnUnsafeCreateTopicsRequest'. -/
def fnUnsafeCreateTopicsRequestCard : Claim7 := { stood := { row := fnUnsafeCreateTopicsRequestRow, standIns := [], harness := (true, "efc3e5381a5cc5b4f1b9a9be919091187ff5a9e081aa22e8d40f7c5c32ed140c"), looks := false }, kinds := [], alts := [], laidByText := true, laidKinds := [.sentinel], laidTests := true, laidLooks := .later }
def FnUnsafeCreateTopicsRequestCardSaid : Prop := Claim7.holds Tryd.pinned (.plain (OpenSpec.ofChange fnUnsafeCreateTopicsRequestSpec)) fnUnsafeCreateTopicsRequestCard

/-- THE TIED CARD OF 'laws.FnUnsafeShareFetchRequest'. -/
def fnUnsafeShareFetchRequestCard : Claim7 := { stood := { row := fnUnsafeShareFetchRequestRow, standIns := [], harness := (true, "efc3e5381a5cc5b4f1b9a9be919091187ff5a9e081aa22e8d40f7c5c32ed140c"), looks := false }, kinds := [], alts := [], laidByText := true, laidKinds := [.sentinel], laidTests := true, laidLooks := .later }
def FnUnsafeShareFetchRequestCardSaid : Prop := Claim7.holds Tryd.pinned (.plain (OpenSpec.ofChange fnUnsafeShareFetchRequestSpec)) fnUnsafeShareFetchRequestCard

/-- THE SECOND FORM's CARD OF 'laws.FnUnsafeGroupMetadataKey'. -/
def fnUnsafeGroupMetadataKeyUptoCard : Claim7 := { stood := { row := fnUnsafeGroupMetadataKeyUptoRow, standIns := [], harness := (true, "efc3e5381a5cc5b4f1b9a9be919091187ff5a9e081aa22e8d40f7c5c32ed140c"), looks := false }, kinds := [], alts := [], laidByText := true, laidKinds := [.sentinel], laidTests := true, laidLooks := .later }
def FnUnsafeGroupMetadataKeyUptoCardSaid : Prop := Claim7.holds Tryd.pinned (.plain (OpenSpec.upto fnUnsafeGroupMetadataKeySpec)) fnUnsafeGroupMetadataKeyUptoCard

/-- THE SECOND FORM's CARD OF 'laws.FnUnsafeLeaveGroupResponse'. -/
def fnUnsafeLeaveGroupResponseUptoCard : Claim7 := { stood := { row := fnUnsafeLeaveGroupResponseUptoRow, standIns := [], harness := (true, "efc3e5381a5cc5b4f1b9a9be919091187ff5a9e081aa22e8d40f7c5c32ed140c"), looks := false }, kinds := [], alts := [], laidByText := true, laidKinds := [.sentinel], laidTests := true, laidLooks := .later }
def FnUnsafeLeaveGroupResponseUptoCardSaid : Prop := Claim7.holds Tryd.pinned (.plain (OpenSpec.upto fnUnsafeLeaveGroupResponseSpec)) fnUnsafeLeaveGroupResponseUptoCard

/-- THE SECOND FORM's CARD OF 'laws.FnUnsafeDeleteRecordsRequest'. -/
def fnUnsafeDeleteRecordsRequestUptoCard : Claim7 := { stood := { row := fnUnsafeDeleteRecordsRequestUptoRow, standIns := [], harness := (true, "efc3e5381a5cc5b4f1b9a9be919091187ff5a9e081aa22e8d40f7c5c32ed140c"), looks := false }, kinds := [], alts := [], laidByText := true, laidKinds := [.sentinel], laidTests := true, laidLooks := .later }
def FnUnsafeDeleteRecordsRequestUptoCardSaid : Prop := Claim7.holds Tryd.pinned (.plain (OpenSpec.upto fnUnsafeDeleteRecordsRequestSpec)) fnUnsafeDeleteRecordsRequestUptoCard

/-- THE SECOND FORM's CARD OF 'laws.FnUnsafeCreateDelegationTokenResponse'. -/
def fnUnsafeCreateDelegationTokenResponseUptoCard : Claim7 := { stood := { row := fnUnsafeCreateDelegationTokenResponseUptoRow, standIns := [], harness := (true, "efc3e5381a5cc5b4f1b9a9be919091187ff5a9e081aa22e8d40f7c5c32ed140c"), looks := false }, kinds := [], alts := [], laidByText := true, laidKinds := [.sentinel], laidTests := true, laidLooks := .later }
def FnUnsafeCreateDelegationTokenResponseUptoCardSaid : Prop := Claim7.holds Tryd.pinned (.plain (OpenSpec.upto fnUnsafeCreateDelegationTokenResponseSpec)) fnUnsafeCreateDelegationTokenResponseUptoCard

/-- THE SECOND FORM's CARD OF 'laws.FnUnsafeCreateACLsRequest'. -/
def fnUnsafeCreateACLsRequestUptoCard : Claim7 := { stood := { row := fnUnsafeCreateACLsRequestUptoRow, standIns := [], harness := (true, "efc3e5381a5cc5b4f1b9a9be919091187ff5a9e081aa22e8d40f7c5c32ed140c"), looks := false }, kinds := [], alts := [], laidByText := true, laidKinds := [.sentinel], laidTests := true, laidLooks := .later }
def FnUnsafeCreateACLsRequestUptoCardSaid : Prop := Claim7.holds Tryd.pinned (.plain (OpenSpec.upto fnUnsafeCreateACLsRequestSpec)) fnUnsafeCreateACLsRequestUptoCard

/-- THE SECOND FORM's CARD OF 'laws.FnUnsafeListTransactionsRequest'. -/
def fnUnsafeListTransactionsRequestUptoCard : Claim7 := { stood := { row := fnUnsafeListTransactionsRequestUptoRow, standIns := [], harness := (true, "efc3e5381a5cc5b4f1b9a9be919091187ff5a9e081aa22e8d40f7c5c32ed140c"), looks := false }, kinds := [], alts := [], laidByText := true, laidKinds := [.sentinel], laidTests := true, laidLooks := .later }
def FnUnsafeListTransactionsRequestUptoCardSaid : Prop := Claim7.holds Tryd.pinned (.plain (OpenSpec.upto fnUnsafeListTransactionsRequestSpec)) fnUnsafeListTransactionsRequestUptoCard

/-- THE SECOND FORM's CARD OF 'laws.FnUnsafeDeleteTopicsRequest'. -/
def fnUnsafeDeleteTopicsRequestUptoCard : Claim7 := { stood := { row := fnUnsafeDeleteTopicsRequestUptoRow, standIns := [], harness := (true, "efc3e5381a5cc5b4f1b9a9be919091187ff5a9e081aa22e8d40f7c5c32ed140c"), looks := false }, kinds := [], alts := [], laidByText := true, laidKinds := [.sentinel], laidTests := true, laidLooks := .later }
def FnUnsafeDeleteTopicsRequestUptoCardSaid : Prop := Claim7.holds Tryd.pinned (.plain (OpenSpec.upto fnUnsafeDeleteTopicsRequestSpec)) fnUnsafeDeleteTopicsRequestUptoCard

/-- THE SECOND FORM's CARD OF 'laws.FnUnsafeListOffsetsResponse'. -/
def fnUnsafeListOffsetsResponseUptoCard : Claim7 := { stood := { row := fnUnsafeListOffsetsResponseUptoRow, standIns := [], harness := (true, "efc3e5381a5cc5b4f1b9a9be919091187ff5a9e081aa22e8d40f7c5c32ed140c"), looks := false }, kinds := [], alts := [], laidByText := true, laidKinds := [.sentinel], laidTests := true, laidLooks := .later }
def FnUnsafeListOffsetsResponseUptoCardSaid : Prop := Claim7.holds Tryd.pinned (.plain (OpenSpec.upto fnUnsafeListOffsetsResponseSpec)) fnUnsafeListOffsetsResponseUptoCard

/-- THE SECOND FORM's CARD OF 'laws.FnUnsafeBeginQuorumEpochRequest'. -/
def fnUnsafeBeginQuorumEpochRequestUptoCard : Claim7 := { stood := { row := fnUnsafeBeginQuorumEpochRequestUptoRow, standIns := [], harness := (true, "efc3e5381a5cc5b4f1b9a9be919091187ff5a9e081aa22e8d40f7c5c32ed140c"), looks := false }, kinds := [], alts := [], laidByText := true, laidKinds := [.sentinel], laidTests := true, laidLooks := .later }
def FnUnsafeBeginQuorumEpochRequestUptoCardSaid : Prop := Claim7.holds Tryd.pinned (.plain (OpenSpec.upto fnUnsafeBeginQuorumEpochRequestSpec)) fnUnsafeBeginQuorumEpochRequestUptoCard

/-- THE SECOND FORM's CARD OF 'laws.FnUnsafeCreateTopicsRequest'. -/
def fnUnsafeCreateTopicsRequestUptoCard : Claim7 := { stood := { row := fnUnsafeCreateTopicsRequestUptoRow, standIns := [], harness := (true, "efc3e5381a5cc5b4f1b9a9be919091187ff5a9e081aa22e8d40f7c5c32ed140c"), looks := false }, kinds := [], alts := [], laidByText := true, laidKinds := [.sentinel], laidTests := true, laidLooks := .later }
def FnUnsafeCreateTopicsRequestUptoCardSaid : Prop := Claim7.holds Tryd.pinned (.plain (OpenSpec.upto fnUnsafeCreateTopicsRequestSpec)) fnUnsafeCreateTopicsRequestUptoCard

/-- THE SECOND FORM's CARD OF 'laws.FnUnsafeShareFetchRequest'. -/
def fnUnsafeShareFetchRequestUptoCard : Claim7 := { stood := { row := fnUnsafeShareFetchRequestUptoRow, standIns := [], harness := (true, "efc3e5381a5cc5b4f1b9a9be919091187ff5a9e081aa22e8d40f7c5c32ed140c"), looks := false }, kinds := [], alts := [], laidByText := true, laidKinds := [.sentinel], laidTests := true, laidLooks := .later }
def FnUnsafeShareFetchRequestUptoCardSaid : Prop := Claim7.holds Tryd.pinned (.plain (OpenSpec.upto fnUnsafeShareFetchRequestSpec)) fnUnsafeShareFetchRequestUptoCard
end Rows
end Go.Proofs.YtdnbgafbhifhoaaDoor
