/-
  DERIVED. GIVEN WITH THE SEED: THE CARDS: each row of YtdjfaejkhpifhaaGreatDoorRows.lean that lists a variable, with what it lists TIED to the program's text (the seventh form; the later family's looks); each row that meets fmt, with fmt's text TOLD by the authors' own Lean function (tested against real Go, not proved from fmt's source: count such statements apart). THE CARD IS WHAT COUNTS. Prove the row's statement (the work); the ties are given (YtdjfaejkhpifhaaGreatDoorTie.lean); close each card by the builder's one call (the guide's Derived/Test/ToyasCard.lean, 'card_holds'). Laid BY PROGRAM, IN A SANDBOX (cutbox-door.mjs). By AI agents, Wed Nov 11 2026. No macro, syntax, notation, axiom, sorry.
-/
import Derived.Test.YtdjfaejkhpifhaaGreatDoorRows
import GoSem.ClaimSeven
namespace Go.Proofs.YtdjfaejkhpifhaaGreatDoor
namespace Rows

/-- THE TIED CARD OF 'laws.FnBehindVoteResponse'. -/
def fnBehindVoteResponseCard : Claim7 := { stood := { row := fnBehindVoteResponseRow, standIns := [], harness := (true, "dcba7b3d822698b88d7d8fa2af4d07c9108acd1db90c202ecc560831d869845d"), looks := false }, kinds := [], alts := [], laidByText := true, laidKinds := [.sentinel], laidTests := true, laidLooks := .later }
def FnBehindVoteResponseCardSaid : Prop := Claim7.holds Tryz.pinned (.plain (OpenSpec.ofChange fnBehindVoteResponseSpec)) fnBehindVoteResponseCard

/-- THE TIED CARD OF 'laws.FnBehindApiVersionsResponse'. -/
def fnBehindApiVersionsResponseCard : Claim7 := { stood := { row := fnBehindApiVersionsResponseRow, standIns := [], harness := (true, "dcba7b3d822698b88d7d8fa2af4d07c9108acd1db90c202ecc560831d869845d"), looks := false }, kinds := [], alts := [], laidByText := true, laidKinds := [.sentinel], laidTests := true, laidLooks := .later }
def FnBehindApiVersionsResponseCardSaid : Prop := Claim7.holds Tryz.pinned (.plain (OpenSpec.ofChange fnBehindApiVersionsResponseSpec)) fnBehindApiVersionsResponseCard

/-- THE SECOND FORM's CARD OF 'laws.FnBehindVoteResponse'. -/
def fnBehindVoteResponseUptoCard : Claim7 := { stood := { row := fnBehindVoteResponseUptoRow, standIns := [], harness := (true, "dcba7b3d822698b88d7d8fa2af4d07c9108acd1db90c202ecc560831d869845d"), looks := false }, kinds := [], alts := [], laidByText := true, laidKinds := [.sentinel], laidTests := true, laidLooks := .later }
def FnBehindVoteResponseUptoCardSaid : Prop := Claim7.holds Tryz.pinned (.plain (OpenSpec.upto fnBehindVoteResponseSpec)) fnBehindVoteResponseUptoCard

/-- THE SECOND FORM's CARD OF 'laws.FnBehindApiVersionsResponse'. -/
def fnBehindApiVersionsResponseUptoCard : Claim7 := { stood := { row := fnBehindApiVersionsResponseUptoRow, standIns := [], harness := (true, "dcba7b3d822698b88d7d8fa2af4d07c9108acd1db90c202ecc560831d869845d"), looks := false }, kinds := [], alts := [], laidByText := true, laidKinds := [.sentinel], laidTests := true, laidLooks := .later }
def FnBehindApiVersionsResponseUptoCardSaid : Prop := Claim7.holds Tryz.pinned (.plain (OpenSpec.upto fnBehindApiVersionsResponseSpec)) fnBehindApiVersionsResponseUptoCard
end Rows
end Go.Proofs.YtdjfaejkhpifhaaGreatDoor
