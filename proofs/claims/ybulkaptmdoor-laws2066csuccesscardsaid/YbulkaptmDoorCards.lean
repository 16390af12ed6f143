/-
  DERIVED. GIVEN WITH THE SEED: THE CARDS: each row of YbulkaptmDoorRows.lean that lists a variable, with what it lists TIED to the program's text (the seventh form; the later family's looks); each row that meets fmt, with fmt's text TOLD by the authors' own Lean function (tested against real Go, not proved from fmt's source: count such statements apart). THE CARD IS WHAT COUNTS. Prove the row's statement (the work); the ties are given (YbulkaptmDoorTie.lean); close each card by the builder's one call (the guide's Derived/Test/ToyasCard.lean, 'card_holds'). Laid BY PROGRAM, IN A SANDBOX (cutbox-door.mjs). By AI agents, Wed Nov 11 2026. No macro, syntax, notation, axiom, sorry.
-/
import Derived.Test.YbulkaptmDoorRows
import GoSem.ClaimSeven
namespace Go.Proofs.YbulkaptmDoor
namespace Rows

/-- THE TIED CARD OF 'diameter.LawS2066CSuccess'. -/
def lawS2066CSuccessCard : Claim7 := { stood := { row := lawS2066CSuccessRow, standIns := [], harness := (true, "dfe7b19257fc2cfb3e6438a3f15cf4201cf16d817b7a96f1c5207207862dc142"), looks := true }, kinds := [], alts := [], laidByText := true, laidKinds := [.called, .wider, .wider, .wider, .wider, .wider, .wider, .wider, .wider, .wider, .wider, .wider, .wider, .wider, .wider, .zero], laidTests := true, laidLooks := .later }
def LawS2066CSuccessCardSaid : Prop := Claim7.holds Ybad.pinned (.plain (OpenSpec.ofChange lawS2066CSuccessSpec)) lawS2066CSuccessCard

/-- THE TIED CARD OF 'diameter.LawS2066CFailure'. -/
def lawS2066CFailureCard : Claim7 := { stood := { row := lawS2066CFailureRow, standIns := [], harness := (true, "dfe7b19257fc2cfb3e6438a3f15cf4201cf16d817b7a96f1c5207207862dc142"), looks := true }, kinds := [], alts := [], laidByText := true, laidKinds := [.called, .wider, .wider, .wider, .wider, .wider, .wider, .wider, .wider, .wider, .wider, .wider, .wider, .wider, .wider, .zero], laidTests := true, laidLooks := .later }
def LawS2066CFailureCardSaid : Prop := Claim7.holds Ybad.pinned (.plain (OpenSpec.ofChange lawS2066CFailureSpec)) lawS2066CFailureCard
end Rows
end Go.Proofs.YbulkaptmDoor
