/-
  DERIVED. GIVEN WITH THE SEED: THE CARDS: each row of YthegbjcccjpbcaaGreatDoorRows.lean that lists a variable, with what it lists TIED to the program's text (the seventh form; the later family's looks); each row that meets fmt, with fmt's text TOLD by the authors' own Lean function (tested against real Go, not proved from fmt's source: count such statements apart). THE CARD IS WHAT COUNTS. Prove the row's statement (the work); the ties are given (YthegbjcccjpbcaaGreatDoorTie.lean); close each card by the builder's one call (the guide's Derived/Test/ToyasCard.lean, 'card_holds'). Laid BY PROGRAM, IN A SANDBOX (cutbox-door.mjs). By AI agents, Wed Nov 11 2026. No macro, syntax, notation, axiom, sorry.
-/
import Derived.Test.YthegbjcccjpbcaaGreatDoorRows
import GoSem.ClaimSeven
namespace Go.Proofs.YthegbjcccjpbcaaGreatDoor
namespace Rows

/-- THE TIED CARD OF 'laws.FnTellMetadataResponse'. -/
def fnTellMetadataResponseCard : Claim7 := { stood := { row := fnTellMetadataResponseRow, standIns := [], harness := (true, "4b2ae9f71fcde9d93552fb81d66be4c0e0546923c50e4e19ad8c7be65e5417c6"), looks := false }, kinds := [], alts := [], laidByText := true, laidKinds := [.sentinel], laidTests := true, laidLooks := .later }
def FnTellMetadataResponseCardSaid : Prop := Claim7.holds Tryz.pinned (.plain (OpenSpec.ofChange fnTellMetadataResponseSpec)) fnTellMetadataResponseCard

/-- THE SECOND FORM's CARD OF 'laws.FnTellMetadataResponse'. -/
def fnTellMetadataResponseUptoCard : Claim7 := { stood := { row := fnTellMetadataResponseUptoRow, standIns := [], harness := (true, "4b2ae9f71fcde9d93552fb81d66be4c0e0546923c50e4e19ad8c7be65e5417c6"), looks := false }, kinds := [], alts := [], laidByText := true, laidKinds := [.sentinel], laidTests := true, laidLooks := .later }
def FnTellMetadataResponseUptoCardSaid : Prop := Claim7.holds Tryz.pinned (.plain (OpenSpec.upto fnTellMetadataResponseSpec)) fnTellMetadataResponseUptoCard
end Rows
end Go.Proofs.YthegbjcccjpbcaaGreatDoor
