/-
  DERIVED. GIVEN WITH THE SEED: THE CARDS: each row of YtjjkeefebiiolaaDoorRows.lean that lists a variable, with what it lists TIED to the program's text (the seventh form; the later family's looks); each row that meets fmt, with fmt's text TOLD by the authors' own Lean function (tested against real Go, not proved from fmt's source: count such statements apart). THE CARD IS WHAT COUNTS. Prove the row's statement (the work); the ties are given (YtjjkeefebiiolaaDoorTie.lean); close each card by the builder's one call (the guide's Derived/Test/ToyasCard.lean, 'card_holds'). Laid BY PROGRAM, IN A SANDBOX (cutbox-door.mjs). By AI agents, Wed Nov 11 2026. No macro, syntax, notation, axiom, sorry.
-/
import Derived.Test.YtjjkeefebiiolaaDoorRows
import GoSem.ClaimSeven
namespace Go.Proofs.YtjjkeefebiiolaaDoor
namespace Rows

/-- THE TIED CARD OF 'laws.FnTellSASLHandshakeResponse'. -/
def fnTellSASLHandshakeResponseCard : Claim7 := { stood := { row := fnTellSASLHandshakeResponseRow, standIns := [], harness := (true, "03d9a3a6547d7d33c9f3ce01be50b58d56d64573f659d59929d102e11759ddff"), looks := false }, kinds := [], alts := [], laidByText := true, laidKinds := [.sentinel], laidTests := true, laidLooks := .later }
def FnTellSASLHandshakeResponseCardSaid : Prop := Claim7.holds Tryd.pinned (.plain (OpenSpec.ofChange fnTellSASLHandshakeResponseSpec)) fnTellSASLHandshakeResponseCard

/-- THE TIED CARD OF 'laws.FnTellEndTxnResponse'. -/
def fnTellEndTxnResponseCard : Claim7 := { stood := { row := fnTellEndTxnResponseRow, standIns := [], harness := (true, "03d9a3a6547d7d33c9f3ce01be50b58d56d64573f659d59929d102e11759ddff"), looks := false }, kinds := [], alts := [], laidByText := true, laidKinds := [.sentinel], laidTests := true, laidLooks := .later }
def FnTellEndTxnResponseCardSaid : Prop := Claim7.holds Tryd.pinned (.plain (OpenSpec.ofChange fnTellEndTxnResponseSpec)) fnTellEndTxnResponseCard

/-- THE SECOND FORM's CARD OF 'laws.FnTellSASLHandshakeResponse'. -/
def fnTellSASLHandshakeResponseUptoCard : Claim7 := { stood := { row := fnTellSASLHandshakeResponseUptoRow, standIns := [], harness := (true, "03d9a3a6547d7d33c9f3ce01be50b58d56d64573f659d59929d102e11759ddff"), looks := false }, kinds := [], alts := [], laidByText := true, laidKinds := [.sentinel], laidTests := true, laidLooks := .later }
def FnTellSASLHandshakeResponseUptoCardSaid : Prop := Claim7.holds Tryd.pinned (.plain (OpenSpec.upto fnTellSASLHandshakeResponseSpec)) fnTellSASLHandshakeResponseUptoCard

/-- THE SECOND FORM's CARD OF 'laws.FnTellEndTxnResponse'. -/
def fnTellEndTxnResponseUptoCard : Claim7 := { stood := { row := fnTellEndTxnResponseUptoRow, standIns := [], harness := (true, "03d9a3a6547d7d33c9f3ce01be50b58d56d64573f659d59929d102e11759ddff"), looks := false }, kinds := [], alts := [], laidByText := true, laidKinds := [.sentinel], laidTests := true, laidLooks := .later }
def FnTellEndTxnResponseUptoCardSaid : Prop := Claim7.holds Tryd.pinned (.plain (OpenSpec.upto fnTellEndTxnResponseSpec)) fnTellEndTxnResponseUptoCard
end Rows
end Go.Proofs.YtjjkeefebiiolaaDoor
