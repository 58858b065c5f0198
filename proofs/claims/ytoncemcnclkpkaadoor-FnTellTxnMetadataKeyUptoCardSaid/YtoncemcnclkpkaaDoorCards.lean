/-
  DERIVED. GIVEN WITH THE SEED: THE CARDS: each row of YtoncemcnclkpkaaDoorRows.lean that lists a variable, with what it lists TIED to the program's text (the seventh form; the later family's looks); each row that meets fmt, with fmt's text TOLD by the authors' own Lean function (tested against real Go, not proved from fmt's source: count such statements apart). THE CARD IS WHAT COUNTS. Prove the row's statement (the work); the ties are given (YtoncemcnclkpkaaDoorTie.lean); close each card by the builder's one call (the guide's Derived/Test/ToyasCard.lean, 'card_holds'). Laid BY PROGRAM, IN A SANDBOX (cutbox-door.mjs). By AI agents, Wed Nov 11 2026. No macro, syntax, notation, axiom, sorry.
-/
import Derived.Test.YtoncemcnclkpkaaDoorRows
import GoSem.ClaimSeven
namespace Go.Proofs.YtoncemcnclkpkaaDoor
namespace Rows

/-- THE TIED CARD OF 'laws.FnTellDescribeClusterRequest'. -/
def fnTellDescribeClusterRequestCard : Claim7 := { stood := { row := fnTellDescribeClusterRequestRow, standIns := [], harness := (true, "8dda00224d7d1c13b240d6bdb06fb0653eee4bbae57c46323c59667518188757"), looks := false }, kinds := [], alts := [], laidByText := true, laidKinds := [.sentinel], laidTests := true, laidLooks := .later }
def FnTellDescribeClusterRequestCardSaid : Prop := Claim7.holds Tryd.pinned (.plain (OpenSpec.ofChange fnTellDescribeClusterRequestSpec)) fnTellDescribeClusterRequestCard

/-- THE TIED CARD OF 'laws.FnTellAllocateProducerIDsRequest'. -/
def fnTellAllocateProducerIDsRequestCard : Claim7 := { stood := { row := fnTellAllocateProducerIDsRequestRow, standIns := [], harness := (true, "8dda00224d7d1c13b240d6bdb06fb0653eee4bbae57c46323c59667518188757"), looks := false }, kinds := [], alts := [], laidByText := true, laidKinds := [.sentinel], laidTests := true, laidLooks := .later }
def FnTellAllocateProducerIDsRequestCardSaid : Prop := Claim7.holds Tryd.pinned (.plain (OpenSpec.ofChange fnTellAllocateProducerIDsRequestSpec)) fnTellAllocateProducerIDsRequestCard

/-- THE TIED CARD OF 'laws.FnTellSASLAuthenticateRequest'. -/
def fnTellSASLAuthenticateRequestCard : Claim7 := { stood := { row := fnTellSASLAuthenticateRequestRow, standIns := [], harness := (true, "8dda00224d7d1c13b240d6bdb06fb0653eee4bbae57c46323c59667518188757"), looks := false }, kinds := [], alts := [], laidByText := true, laidKinds := [.sentinel], laidTests := true, laidLooks := .later }
def FnTellSASLAuthenticateRequestCardSaid : Prop := Claim7.holds Tryd.pinned (.plain (OpenSpec.ofChange fnTellSASLAuthenticateRequestSpec)) fnTellSASLAuthenticateRequestCard

/-- THE TIED CARD OF 'laws.FnTellExpireDelegationTokenRequest'. -/
def fnTellExpireDelegationTokenRequestCard : Claim7 := { stood := { row := fnTellExpireDelegationTokenRequestRow, standIns := [], harness := (true, "8dda00224d7d1c13b240d6bdb06fb0653eee4bbae57c46323c59667518188757"), looks := false }, kinds := [], alts := [], laidByText := true, laidKinds := [.sentinel], laidTests := true, laidLooks := .later }
def FnTellExpireDelegationTokenRequestCardSaid : Prop := Claim7.holds Tryd.pinned (.plain (OpenSpec.ofChange fnTellExpireDelegationTokenRequestSpec)) fnTellExpireDelegationTokenRequestCard

/-- THE TIED CARD OF 'laws.FnTellAddOffsetsToTxnRequest'. -/
def fnTellAddOffsetsToTxnRequestCard : Claim7 := { stood := { row := fnTellAddOffsetsToTxnRequestRow, standIns := [], harness := (true, "8dda00224d7d1c13b240d6bdb06fb0653eee4bbae57c46323c59667518188757"), looks := false }, kinds := [], alts := [], laidByText := true, laidKinds := [.sentinel], laidTests := true, laidLooks := .later }
def FnTellAddOffsetsToTxnRequestCardSaid : Prop := Claim7.holds Tryd.pinned (.plain (OpenSpec.ofChange fnTellAddOffsetsToTxnRequestSpec)) fnTellAddOffsetsToTxnRequestCard

/-- THE TIED CARD OF 'laws.FnTellDescribeTransactionsRequest'. -/
def fnTellDescribeTransactionsRequestCard : Claim7 := { stood := { row := fnTellDescribeTransactionsRequestRow, standIns := [], harness := (true, "8dda00224d7d1c13b240d6bdb06fb0653eee4bbae57c46323c59667518188757"), looks := false }, kinds := [], alts := [], laidByText := true, laidKinds := [.sentinel], laidTests := true, laidLooks := .later }
def FnTellDescribeTransactionsRequestCardSaid : Prop := Claim7.holds Tryd.pinned (.plain (OpenSpec.ofChange fnTellDescribeTransactionsRequestSpec)) fnTellDescribeTransactionsRequestCard

/-- THE TIED CARD OF 'laws.FnTellTxnMetadataKey'. -/
def fnTellTxnMetadataKeyCard : Claim7 := { stood := { row := fnTellTxnMetadataKeyRow, standIns := [], harness := (true, "8dda00224d7d1c13b240d6bdb06fb0653eee4bbae57c46323c59667518188757"), looks := false }, kinds := [], alts := [], laidByText := true, laidKinds := [.sentinel], laidTests := true, laidLooks := .later }
def FnTellTxnMetadataKeyCardSaid : Prop := Claim7.holds Tryd.pinned (.plain (OpenSpec.ofChange fnTellTxnMetadataKeySpec)) fnTellTxnMetadataKeyCard

/-- THE SECOND FORM's CARD OF 'laws.FnTellDescribeClusterRequest'. -/
def fnTellDescribeClusterRequestUptoCard : Claim7 := { stood := { row := fnTellDescribeClusterRequestUptoRow, standIns := [], harness := (true, "8dda00224d7d1c13b240d6bdb06fb0653eee4bbae57c46323c59667518188757"), looks := false }, kinds := [], alts := [], laidByText := true, laidKinds := [.sentinel], laidTests := true, laidLooks := .later }
def FnTellDescribeClusterRequestUptoCardSaid : Prop := Claim7.holds Tryd.pinned (.plain (OpenSpec.upto fnTellDescribeClusterRequestSpec)) fnTellDescribeClusterRequestUptoCard

/-- THE SECOND FORM's CARD OF 'laws.FnTellAllocateProducerIDsRequest'. -/
def fnTellAllocateProducerIDsRequestUptoCard : Claim7 := { stood := { row := fnTellAllocateProducerIDsRequestUptoRow, standIns := [], harness := (true, "8dda00224d7d1c13b240d6bdb06fb0653eee4bbae57c46323c59667518188757"), looks := false }, kinds := [], alts := [], laidByText := true, laidKinds := [.sentinel], laidTests := true, laidLooks := .later }
def FnTellAllocateProducerIDsRequestUptoCardSaid : Prop := Claim7.holds Tryd.pinned (.plain (OpenSpec.upto fnTellAllocateProducerIDsRequestSpec)) fnTellAllocateProducerIDsRequestUptoCard

/-- THE SECOND FORM's CARD OF 'laws.FnTellSASLAuthenticateRequest'. -/
def fnTellSASLAuthenticateRequestUptoCard : Claim7 := { stood := { row := fnTellSASLAuthenticateRequestUptoRow, standIns := [], harness := (true, "8dda00224d7d1c13b240d6bdb06fb0653eee4bbae57c46323c59667518188757"), looks := false }, kinds := [], alts := [], laidByText := true, laidKinds := [.sentinel], laidTests := true, laidLooks := .later }
def FnTellSASLAuthenticateRequestUptoCardSaid : Prop := Claim7.holds Tryd.pinned (.plain (OpenSpec.upto fnTellSASLAuthenticateRequestSpec)) fnTellSASLAuthenticateRequestUptoCard

/-- THE SECOND FORM's CARD OF 'laws.FnTellExpireDelegationTokenRequest'. -/
def fnTellExpireDelegationTokenRequestUptoCard : Claim7 := { stood := { row := fnTellExpireDelegationTokenRequestUptoRow, standIns := [], harness := (true, "8dda00224d7d1c13b240d6bdb06fb0653eee4bbae57c46323c59667518188757"), looks := false }, kinds := [], alts := [], laidByText := true, laidKinds := [.sentinel], laidTests := true, laidLooks := .later }
def FnTellExpireDelegationTokenRequestUptoCardSaid : Prop := Claim7.holds Tryd.pinned (.plain (OpenSpec.upto fnTellExpireDelegationTokenRequestSpec)) fnTellExpireDelegationTokenRequestUptoCard

/-- THE SECOND FORM's CARD OF 'laws.FnTellAddOffsetsToTxnRequest'. -/
def fnTellAddOffsetsToTxnRequestUptoCard : Claim7 := { stood := { row := fnTellAddOffsetsToTxnRequestUptoRow, standIns := [], harness := (true, "8dda00224d7d1c13b240d6bdb06fb0653eee4bbae57c46323c59667518188757"), looks := false }, kinds := [], alts := [], laidByText := true, laidKinds := [.sentinel], laidTests := true, laidLooks := .later }
def FnTellAddOffsetsToTxnRequestUptoCardSaid : Prop := Claim7.holds Tryd.pinned (.plain (OpenSpec.upto fnTellAddOffsetsToTxnRequestSpec)) fnTellAddOffsetsToTxnRequestUptoCard

/-- THE SECOND FORM's CARD OF 'laws.FnTellDescribeTransactionsRequest'. -/
def fnTellDescribeTransactionsRequestUptoCard : Claim7 := { stood := { row := fnTellDescribeTransactionsRequestUptoRow, standIns := [], harness := (true, "8dda00224d7d1c13b240d6bdb06fb0653eee4bbae57c46323c59667518188757"), looks := false }, kinds := [], alts := [], laidByText := true, laidKinds := [.sentinel], laidTests := true, laidLooks := .later }
def FnTellDescribeTransactionsRequestUptoCardSaid : Prop := Claim7.holds Tryd.pinned (.plain (OpenSpec.upto fnTellDescribeTransactionsRequestSpec)) fnTellDescribeTransactionsRequestUptoCard

/-- THE SECOND FORM's CARD OF 'laws.FnTellTxnMetadataKey'. -/
def fnTellTxnMetadataKeyUptoCard : Claim7 := { stood := { row := fnTellTxnMetadataKeyUptoRow, standIns := [], harness := (true, "8dda00224d7d1c13b240d6bdb06fb0653eee4bbae57c46323c59667518188757"), looks := false }, kinds := [], alts := [], laidByText := true, laidKinds := [.sentinel], laidTests := true, laidLooks := .later }
def FnTellTxnMetadataKeyUptoCardSaid : Prop := Claim7.holds Tryd.pinned (.plain (OpenSpec.upto fnTellTxnMetadataKeySpec)) fnTellTxnMetadataKeyUptoCard
end Rows
end Go.Proofs.YtoncemcnclkpkaaDoor
