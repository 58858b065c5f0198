/-
  DERIVED. GIVEN WITH THE SEED: THE CARDS: each row of YtdacadmfdhjpoaaDoorRows.lean that lists a variable, with what it lists TIED to the program's text (the seventh form; the later family's looks); each row that meets fmt, with fmt's text TOLD by the authors' own Lean function (tested against real Go, not proved from fmt's source: count such statements apart). THE CARD IS WHAT COUNTS. Prove the row's statement (the work); the ties are given (YtdacadmfdhjpoaaDoorTie.lean); close each card by the builder's one call (the guide's Derived/Test/ToyasCard.lean, 'card_holds'). Laid BY PROGRAM, IN A SANDBOX (cutbox-door.mjs). By AI agents, Wed Nov 11 2026. No macro, syntax, notation, axiom, sorry.
-/
import Derived.Test.YtdacadmfdhjpoaaDoorRows
import GoSem.ClaimSeven
namespace Go.Proofs.YtdacadmfdhjpoaaDoor
namespace Rows

/-- THE TIED CARD OF 'laws.FnUnsafeStopReplicaRequest'. -/
def fnUnsafeStopReplicaRequestCard : Claim7 := { stood := { row := fnUnsafeStopReplicaRequestRow, standIns := [], harness := (true, "9a20756b8ad9897617fd22f5bddb6f670ddf174e57c005006714287039ff586f"), looks := false }, kinds := [], alts := [], laidByText := true, laidKinds := [.sentinel], laidTests := true, laidLooks := .later }
def FnUnsafeStopReplicaRequestCardSaid : Prop := Claim7.holds Tryd.pinned (.plain (OpenSpec.ofChange fnUnsafeStopReplicaRequestSpec)) fnUnsafeStopReplicaRequestCard

/-- THE SECOND FORM's CARD OF 'laws.FnUnsafeStopReplicaRequest'. -/
def fnUnsafeStopReplicaRequestUptoCard : Claim7 := { stood := { row := fnUnsafeStopReplicaRequestUptoRow, standIns := [], harness := (true, "9a20756b8ad9897617fd22f5bddb6f670ddf174e57c005006714287039ff586f"), looks := false }, kinds := [], alts := [], laidByText := true, laidKinds := [.sentinel], laidTests := true, laidLooks := .later }
def FnUnsafeStopReplicaRequestUptoCardSaid : Prop := Claim7.holds Tryd.pinned (.plain (OpenSpec.upto fnUnsafeStopReplicaRequestSpec)) fnUnsafeStopReplicaRequestUptoCard
end Rows
end Go.Proofs.YtdacadmfdhjpoaaDoor
