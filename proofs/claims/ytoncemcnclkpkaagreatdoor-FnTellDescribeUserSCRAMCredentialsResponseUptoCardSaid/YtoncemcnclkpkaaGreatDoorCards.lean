/-
  DERIVED. GIVEN WITH THE SEED: THE CARDS: each row of YtoncemcnclkpkaaGreatDoorRows.lean that lists a variable, with what it lists TIED to the program's text (the seventh form; the later family's looks); each row that meets fmt, with fmt's text TOLD by the authors' own Lean function (tested against real Go, not proved from fmt's source: count such statements apart). THE CARD IS WHAT COUNTS. Prove the row's statement (the work); the ties are given (YtoncemcnclkpkaaGreatDoorTie.lean); close each card by the builder's one call (the guide's Derived/Test/ToyasCard.lean, 'card_holds'). Laid BY PROGRAM, IN A SANDBOX (cutbox-door.mjs). By AI agents, Wed Nov 11 2026. No macro, syntax, notation, axiom, sorry.
-/
import Derived.Test.YtoncemcnclkpkaaGreatDoorRows
import GoSem.ClaimSeven
namespace Go.Proofs.YtoncemcnclkpkaaGreatDoor
namespace Rows

/-- THE TIED CARD OF 'laws.FnTellControlledShutdownResponse'. -/
def fnTellControlledShutdownResponseCard : Claim7 := { stood := { row := fnTellControlledShutdownResponseRow, standIns := [], harness := (true, "644bc1778485b631dfd847c2549449dffbc7919b2699a10bb0b8845920a3a72f"), looks := false }, kinds := [], alts := [], laidByText := true, laidKinds := [.sentinel], laidTests := true, laidLooks := .later }
def FnTellControlledShutdownResponseCardSaid : Prop := Claim7.holds Tryz.pinned (.plain (OpenSpec.ofChange fnTellControlledShutdownResponseSpec)) fnTellControlledShutdownResponseCard

/-- THE TIED CARD OF 'laws.FnTellDescribeQuorumRequest'. -/
def fnTellDescribeQuorumRequestCard : Claim7 := { stood := { row := fnTellDescribeQuorumRequestRow, standIns := [], harness := (true, "644bc1778485b631dfd847c2549449dffbc7919b2699a10bb0b8845920a3a72f"), looks := false }, kinds := [], alts := [], laidByText := true, laidKinds := [.sentinel], laidTests := true, laidLooks := .later }
def FnTellDescribeQuorumRequestCardSaid : Prop := Claim7.holds Tryz.pinned (.plain (OpenSpec.ofChange fnTellDescribeQuorumRequestSpec)) fnTellDescribeQuorumRequestCard

/-- THE TIED CARD OF 'laws.FnTellDeleteShareGroupOffsetsResponse'. -/
def fnTellDeleteShareGroupOffsetsResponseCard : Claim7 := { stood := { row := fnTellDeleteShareGroupOffsetsResponseRow, standIns := [], harness := (true, "644bc1778485b631dfd847c2549449dffbc7919b2699a10bb0b8845920a3a72f"), looks := false }, kinds := [], alts := [], laidByText := true, laidKinds := [.sentinel], laidTests := true, laidLooks := .later }
def FnTellDeleteShareGroupOffsetsResponseCardSaid : Prop := Claim7.holds Tryz.pinned (.plain (OpenSpec.ofChange fnTellDeleteShareGroupOffsetsResponseSpec)) fnTellDeleteShareGroupOffsetsResponseCard

/-- THE TIED CARD OF 'laws.FnTellDescribeUserSCRAMCredentialsResponse'. -/
def fnTellDescribeUserSCRAMCredentialsResponseCard : Claim7 := { stood := { row := fnTellDescribeUserSCRAMCredentialsResponseRow, standIns := [], harness := (true, "644bc1778485b631dfd847c2549449dffbc7919b2699a10bb0b8845920a3a72f"), looks := false }, kinds := [], alts := [], laidByText := true, laidKinds := [.sentinel], laidTests := true, laidLooks := .later }
def FnTellDescribeUserSCRAMCredentialsResponseCardSaid : Prop := Claim7.holds Tryz.pinned (.plain (OpenSpec.ofChange fnTellDescribeUserSCRAMCredentialsResponseSpec)) fnTellDescribeUserSCRAMCredentialsResponseCard

/-- THE TIED CARD OF 'laws.FnTellIncrementalAlterConfigsRequest'. -/
def fnTellIncrementalAlterConfigsRequestCard : Claim7 := { stood := { row := fnTellIncrementalAlterConfigsRequestRow, standIns := [], harness := (true, "644bc1778485b631dfd847c2549449dffbc7919b2699a10bb0b8845920a3a72f"), looks := false }, kinds := [], alts := [], laidByText := true, laidKinds := [.sentinel], laidTests := true, laidLooks := .later }
def FnTellIncrementalAlterConfigsRequestCardSaid : Prop := Claim7.holds Tryz.pinned (.plain (OpenSpec.ofChange fnTellIncrementalAlterConfigsRequestSpec)) fnTellIncrementalAlterConfigsRequestCard

/-- THE SECOND FORM's CARD OF 'laws.FnTellControlledShutdownResponse'. -/
def fnTellControlledShutdownResponseUptoCard : Claim7 := { stood := { row := fnTellControlledShutdownResponseUptoRow, standIns := [], harness := (true, "644bc1778485b631dfd847c2549449dffbc7919b2699a10bb0b8845920a3a72f"), looks := false }, kinds := [], alts := [], laidByText := true, laidKinds := [.sentinel], laidTests := true, laidLooks := .later }
def FnTellControlledShutdownResponseUptoCardSaid : Prop := Claim7.holds Tryz.pinned (.plain (OpenSpec.upto fnTellControlledShutdownResponseSpec)) fnTellControlledShutdownResponseUptoCard

/-- THE SECOND FORM's CARD OF 'laws.FnTellDescribeQuorumRequest'. -/
def fnTellDescribeQuorumRequestUptoCard : Claim7 := { stood := { row := fnTellDescribeQuorumRequestUptoRow, standIns := [], harness := (true, "644bc1778485b631dfd847c2549449dffbc7919b2699a10bb0b8845920a3a72f"), looks := false }, kinds := [], alts := [], laidByText := true, laidKinds := [.sentinel], laidTests := true, laidLooks := .later }
def FnTellDescribeQuorumRequestUptoCardSaid : Prop := Claim7.holds Tryz.pinned (.plain (OpenSpec.upto fnTellDescribeQuorumRequestSpec)) fnTellDescribeQuorumRequestUptoCard

/-- THE SECOND FORM's CARD OF 'laws.FnTellDeleteShareGroupOffsetsResponse'. -/
def fnTellDeleteShareGroupOffsetsResponseUptoCard : Claim7 := { stood := { row := fnTellDeleteShareGroupOffsetsResponseUptoRow, standIns := [], harness := (true, "644bc1778485b631dfd847c2549449dffbc7919b2699a10bb0b8845920a3a72f"), looks := false }, kinds := [], alts := [], laidByText := true, laidKinds := [.sentinel], laidTests := true, laidLooks := .later }
def FnTellDeleteShareGroupOffsetsResponseUptoCardSaid : Prop := Claim7.holds Tryz.pinned (.plain (OpenSpec.upto fnTellDeleteShareGroupOffsetsResponseSpec)) fnTellDeleteShareGroupOffsetsResponseUptoCard

/-- THE SECOND FORM's CARD OF 'laws.FnTellDescribeUserSCRAMCredentialsResponse'. -/
def fnTellDescribeUserSCRAMCredentialsResponseUptoCard : Claim7 := { stood := { row := fnTellDescribeUserSCRAMCredentialsResponseUptoRow, standIns := [], harness := (true, "644bc1778485b631dfd847c2549449dffbc7919b2699a10bb0b8845920a3a72f"), looks := false }, kinds := [], alts := [], laidByText := true, laidKinds := [.sentinel], laidTests := true, laidLooks := .later }
def FnTellDescribeUserSCRAMCredentialsResponseUptoCardSaid : Prop := Claim7.holds Tryz.pinned (.plain (OpenSpec.upto fnTellDescribeUserSCRAMCredentialsResponseSpec)) fnTellDescribeUserSCRAMCredentialsResponseUptoCard

/-- THE SECOND FORM's CARD OF 'laws.FnTellIncrementalAlterConfigsRequest'. -/
def fnTellIncrementalAlterConfigsRequestUptoCard : Claim7 := { stood := { row := fnTellIncrementalAlterConfigsRequestUptoRow, standIns := [], harness := (true, "644bc1778485b631dfd847c2549449dffbc7919b2699a10bb0b8845920a3a72f"), looks := false }, kinds := [], alts := [], laidByText := true, laidKinds := [.sentinel], laidTests := true, laidLooks := .later }
def FnTellIncrementalAlterConfigsRequestUptoCardSaid : Prop := Claim7.holds Tryz.pinned (.plain (OpenSpec.upto fnTellIncrementalAlterConfigsRequestSpec)) fnTellIncrementalAlterConfigsRequestUptoCard
end Rows
end Go.Proofs.YtoncemcnclkpkaaGreatDoor
