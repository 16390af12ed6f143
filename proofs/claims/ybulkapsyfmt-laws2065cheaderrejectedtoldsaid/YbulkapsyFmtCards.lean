/-
  DERIVED. GIVEN WITH THE SEED: THE CARDS: each row of YbulkapsyFmtRows.lean that lists a variable, with what it lists TIED to the program's text (the seventh form; the later family's looks); each row that meets fmt, with fmt's text TOLD by the authors' own Lean function (tested against real Go, not proved from fmt's source: count such statements apart). THE CARD IS WHAT COUNTS. Prove the row's statement (the work); the ties are given (YbulkapsyFmtTie.lean); close each card by the builder's one call (the guide's Derived/Test/ToyasCard.lean, 'card_holds'). Laid BY PROGRAM, IN A SANDBOX (cutbox-door.mjs). By AI agents, Wed Nov 11 2026. No macro, syntax, notation, axiom, sorry.
-/
import Derived.Test.YbulkapsyFmtRows
import GoSem.ClaimSeven
namespace Go.Proofs.YbulkapsyFmt
namespace Rows

/-- THE TOLD AND TIED CARD OF 'wire.LawS2065CHeaderRejected'. -/
def lawS2065CHeaderRejectedCard : Claim7 := { stood := { row := lawS2065CHeaderRejectedRow, standIns := [], harness := (true, "2dfd4943f23e6bab79ba5f2bd978713540ec29595d6de7097684db81d48a298c"), looks := true }, told := true, laidByText := true, laidKinds := [.sentinel], laidTests := true, laidLooks := .later, goes := false }
def LawS2065CHeaderRejectedToldSaid : Prop := Claim7.holds Ybaf.pinned (.plain (OpenSpec.ofChange lawS2065CHeaderRejectedSpec)) lawS2065CHeaderRejectedCard
/-- ITS FALSE NEIGHBOUR. Refute it at one input. -/
def LawS2065CHeaderRejectedToldWrongFalsely : Prop := Claim7.holds Ybaf.pinned (.plain (OpenSpec.ofChange lawS2065CHeaderRejectedWrong)) lawS2065CHeaderRejectedCard

/-- THE TOLD AND TIED CARD OF 'wire.LawS2065COnlyAnswers'. -/
def lawS2065COnlyAnswersCard : Claim7 := { stood := { row := lawS2065COnlyAnswersRow, standIns := [], harness := (true, "2dfd4943f23e6bab79ba5f2bd978713540ec29595d6de7097684db81d48a298c"), looks := true }, told := true, laidByText := true, laidKinds := [.sentinel], laidTests := true, laidLooks := .later, goes := false }
def LawS2065COnlyAnswersToldSaid : Prop := Claim7.holds Ybaf.pinned (.plain (OpenSpec.ofChange lawS2065COnlyAnswersSpec)) lawS2065COnlyAnswersCard
/-- ITS FALSE NEIGHBOUR. Refute it at one input. -/
def LawS2065COnlyAnswersToldWrongFalsely : Prop := Claim7.holds Ybaf.pinned (.plain (OpenSpec.ofChange lawS2065COnlyAnswersWrong)) lawS2065COnlyAnswersCard
end Rows
end Go.Proofs.YbulkapsyFmt
