/-
  DERIVED. GIVEN WITH THE SEED: THE CARDS: each row of YtjpidbdhoiagpaaGreatDoorRows.lean that lists a variable, with what it lists TIED to the program's text (the seventh form; the later family's looks); each row that meets fmt, with fmt's text TOLD by the authors' own Lean function (tested against real Go, not proved from fmt's source: count such statements apart). THE CARD IS WHAT COUNTS. Prove the row's statement (the work); the ties are given (YtjpidbdhoiagpaaGreatDoorTie.lean); close each card by the builder's one call (the guide's Derived/Test/ToyasCard.lean, 'card_holds'). Laid BY PROGRAM, IN A SANDBOX (cutbox-door.mjs). By AI agents, Wed Nov 11 2026. No macro, syntax, notation, axiom, sorry.
-/
import Derived.Test.YtjpidbdhoiagpaaGreatDoorRows
import GoSem.ClaimSeven
namespace Go.Proofs.YtjpidbdhoiagpaaGreatDoor
namespace Rows

/-- THE TIED CARD OF 'laws.FnFrameAlterUserSCRAMCredentialsRequest'. -/
def fnFrameAlterUserSCRAMCredentialsRequestCard : Claim7 := { stood := { row := fnFrameAlterUserSCRAMCredentialsRequestRow, standIns := [], harness := (true, "c66865defbc57a583806c61c086a115d9d8c5a79e38a8668df138448dbc32969"), looks := false }, kinds := [], alts := [], laidByText := true, laidKinds := [.sentinel], laidTests := true, laidLooks := .later }
def FnFrameAlterUserSCRAMCredentialsRequestCardSaid : Prop := Claim7.holds Tryz.pinned (.plain (OpenSpec.ofChange fnFrameAlterUserSCRAMCredentialsRequestSpec)) fnFrameAlterUserSCRAMCredentialsRequestCard

/-- THE TIED CARD OF 'laws.FnFrameWriteTxnMarkersRequest'. -/
def fnFrameWriteTxnMarkersRequestCard : Claim7 := { stood := { row := fnFrameWriteTxnMarkersRequestRow, standIns := [], harness := (true, "c66865defbc57a583806c61c086a115d9d8c5a79e38a8668df138448dbc32969"), looks := false }, kinds := [], alts := [], laidByText := true, laidKinds := [.sentinel], laidTests := true, laidLooks := .later }
def FnFrameWriteTxnMarkersRequestCardSaid : Prop := Claim7.holds Tryz.pinned (.plain (OpenSpec.ofChange fnFrameWriteTxnMarkersRequestSpec)) fnFrameWriteTxnMarkersRequestCard

/-- THE TIED CARD OF 'laws.FnFrameUpdateRaftVoterRequest'. -/
def fnFrameUpdateRaftVoterRequestCard : Claim7 := { stood := { row := fnFrameUpdateRaftVoterRequestRow, standIns := [], harness := (true, "c66865defbc57a583806c61c086a115d9d8c5a79e38a8668df138448dbc32969"), looks := false }, kinds := [], alts := [], laidByText := true, laidKinds := [.sentinel], laidTests := true, laidLooks := .later }
def FnFrameUpdateRaftVoterRequestCardSaid : Prop := Claim7.holds Tryz.pinned (.plain (OpenSpec.ofChange fnFrameUpdateRaftVoterRequestSpec)) fnFrameUpdateRaftVoterRequestCard

/-- THE TIED CARD OF 'laws.FnFramePushTelemetryRequest'. -/
def fnFramePushTelemetryRequestCard : Claim7 := { stood := { row := fnFramePushTelemetryRequestRow, standIns := [], harness := (true, "c66865defbc57a583806c61c086a115d9d8c5a79e38a8668df138448dbc32969"), looks := false }, kinds := [], alts := [], laidByText := true, laidKinds := [.sentinel], laidTests := true, laidLooks := .later }
def FnFramePushTelemetryRequestCardSaid : Prop := Claim7.holds Tryz.pinned (.plain (OpenSpec.ofChange fnFramePushTelemetryRequestSpec)) fnFramePushTelemetryRequestCard

/-- THE TIED CARD OF 'laws.FnFrameDescribeConfigsRequest'. -/
def fnFrameDescribeConfigsRequestCard : Claim7 := { stood := { row := fnFrameDescribeConfigsRequestRow, standIns := [], harness := (true, "c66865defbc57a583806c61c086a115d9d8c5a79e38a8668df138448dbc32969"), looks := false }, kinds := [], alts := [], laidByText := true, laidKinds := [.sentinel], laidTests := true, laidLooks := .later }
def FnFrameDescribeConfigsRequestCardSaid : Prop := Claim7.holds Tryz.pinned (.plain (OpenSpec.ofChange fnFrameDescribeConfigsRequestSpec)) fnFrameDescribeConfigsRequestCard

/-- THE SECOND FORM's CARD OF 'laws.FnFrameAlterUserSCRAMCredentialsRequest'. -/
def fnFrameAlterUserSCRAMCredentialsRequestUptoCard : Claim7 := { stood := { row := fnFrameAlterUserSCRAMCredentialsRequestUptoRow, standIns := [], harness := (true, "c66865defbc57a583806c61c086a115d9d8c5a79e38a8668df138448dbc32969"), looks := false }, kinds := [], alts := [], laidByText := true, laidKinds := [.sentinel], laidTests := true, laidLooks := .later }
def FnFrameAlterUserSCRAMCredentialsRequestUptoCardSaid : Prop := Claim7.holds Tryz.pinned (.plain (OpenSpec.upto fnFrameAlterUserSCRAMCredentialsRequestSpec)) fnFrameAlterUserSCRAMCredentialsRequestUptoCard

/-- THE SECOND FORM's CARD OF 'laws.FnFrameWriteTxnMarkersRequest'. -/
def fnFrameWriteTxnMarkersRequestUptoCard : Claim7 := { stood := { row := fnFrameWriteTxnMarkersRequestUptoRow, standIns := [], harness := (true, "c66865defbc57a583806c61c086a115d9d8c5a79e38a8668df138448dbc32969"), looks := false }, kinds := [], alts := [], laidByText := true, laidKinds := [.sentinel], laidTests := true, laidLooks := .later }
def FnFrameWriteTxnMarkersRequestUptoCardSaid : Prop := Claim7.holds Tryz.pinned (.plain (OpenSpec.upto fnFrameWriteTxnMarkersRequestSpec)) fnFrameWriteTxnMarkersRequestUptoCard

/-- THE SECOND FORM's CARD OF 'laws.FnFrameUpdateRaftVoterRequest'. -/
def fnFrameUpdateRaftVoterRequestUptoCard : Claim7 := { stood := { row := fnFrameUpdateRaftVoterRequestUptoRow, standIns := [], harness := (true, "c66865defbc57a583806c61c086a115d9d8c5a79e38a8668df138448dbc32969"), looks := false }, kinds := [], alts := [], laidByText := true, laidKinds := [.sentinel], laidTests := true, laidLooks := .later }
def FnFrameUpdateRaftVoterRequestUptoCardSaid : Prop := Claim7.holds Tryz.pinned (.plain (OpenSpec.upto fnFrameUpdateRaftVoterRequestSpec)) fnFrameUpdateRaftVoterRequestUptoCard

/-- THE SECOND FORM's CARD OF 'laws.FnFramePushTelemetryRequest'. -/
def fnFramePushTelemetryRequestUptoCard : Claim7 := { stood := { row := fnFramePushTelemetryRequestUptoRow, standIns := [], harness := (true, "c66865defbc57a583806c61c086a115d9d8c5a79e38a8668df138448dbc32969"), looks := false }, kinds := [], alts := [], laidByText := true, laidKinds := [.sentinel], laidTests := true, laidLooks := .later }
def FnFramePushTelemetryRequestUptoCardSaid : Prop := Claim7.holds Tryz.pinned (.plain (OpenSpec.upto fnFramePushTelemetryRequestSpec)) fnFramePushTelemetryRequestUptoCard

/-- THE SECOND FORM's CARD OF 'laws.FnFrameDescribeConfigsRequest'. -/
def fnFrameDescribeConfigsRequestUptoCard : Claim7 := { stood := { row := fnFrameDescribeConfigsRequestUptoRow, standIns := [], harness := (true, "c66865defbc57a583806c61c086a115d9d8c5a79e38a8668df138448dbc32969"), looks := false }, kinds := [], alts := [], laidByText := true, laidKinds := [.sentinel], laidTests := true, laidLooks := .later }
def FnFrameDescribeConfigsRequestUptoCardSaid : Prop := Claim7.holds Tryz.pinned (.plain (OpenSpec.upto fnFrameDescribeConfigsRequestSpec)) fnFrameDescribeConfigsRequestUptoCard
end Rows
end Go.Proofs.YtjpidbdhoiagpaaGreatDoor
