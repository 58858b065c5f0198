/-
  DERIVED. GIVEN WITH THE SEED: THE CARDS: each row of YthgkgbaggjongaaDoorRows.lean that lists a variable, with what it lists TIED to the program's text (the seventh form; the later family's looks); each row that meets fmt, with fmt's text TOLD by the authors' own Lean function (tested against real Go, not proved from fmt's source: count such statements apart). THE CARD IS WHAT COUNTS. Prove the row's statement (the work); the ties are given (YthgkgbaggjongaaDoorTie.lean); close each card by the builder's one call (the guide's Derived/Test/ToyasCard.lean, 'card_holds'). Laid BY PROGRAM, IN A SANDBOX (cutbox-door.mjs). By AI agents, Wed Nov 11 2026. No macro, syntax, notation, axiom, sorry.
-/
import Derived.Test.YthgkgbaggjongaaDoorRows
import GoSem.ClaimSeven
namespace Go.Proofs.YthgkgbaggjongaaDoor
namespace Rows

/-- THE TIED CARD OF 'laws.FnBehindBrokerRegistrationResponse'. -/
def fnBehindBrokerRegistrationResponseCard : Claim7 := { stood := { row := fnBehindBrokerRegistrationResponseRow, standIns := [], harness := (true, "0526ef7106cb9fc07829e01c6ae6042a4e916808953ac2e7fdeb3aab3305a9a5"), looks := false }, kinds := [], alts := [], laidByText := true, laidKinds := [.sentinel], laidTests := true, laidLooks := .later }
def FnBehindBrokerRegistrationResponseCardSaid : Prop := Claim7.holds Tryd.pinned (.plain (OpenSpec.ofChange fnBehindBrokerRegistrationResponseSpec)) fnBehindBrokerRegistrationResponseCard

/-- THE SECOND FORM's CARD OF 'laws.FnBehindBrokerRegistrationResponse'. -/
def fnBehindBrokerRegistrationResponseUptoCard : Claim7 := { stood := { row := fnBehindBrokerRegistrationResponseUptoRow, standIns := [], harness := (true, "0526ef7106cb9fc07829e01c6ae6042a4e916808953ac2e7fdeb3aab3305a9a5"), looks := false }, kinds := [], alts := [], laidByText := true, laidKinds := [.sentinel], laidTests := true, laidLooks := .later }
def FnBehindBrokerRegistrationResponseUptoCardSaid : Prop := Claim7.holds Tryd.pinned (.plain (OpenSpec.upto fnBehindBrokerRegistrationResponseSpec)) fnBehindBrokerRegistrationResponseUptoCard
end Rows
end Go.Proofs.YthgkgbaggjongaaDoor
