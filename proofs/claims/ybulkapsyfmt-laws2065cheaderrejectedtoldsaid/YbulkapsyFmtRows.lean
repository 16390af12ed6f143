/-
  NARROWER THAN 'FOR EVERY INPUT', by the rows' own cells (each row's printed sentence says how): LawS2065CHeaderRejected: ifaces, laid · LawS2065COnlyAnswers: ifaces, laid.
  DERIVED. THE GIVEN ROWS OF THIS SEAT. 2 by the template 'for every input the law returns true; each argument reads behind the call as it read before'; 0 by the template 'total and deterministic' (their statements: YbulkapsyFmtTotals.lean).
  GIVEN WITH THE SEED: the statements are not yours to turn. If you find one false, say at which input.
  Laid BY PROGRAM, IN A SANDBOX (cutbox-rows.mjs): the forced cells as the released guide's own fill.sh prints them over the translation c0743979b6ad8ed3… (all of the seat's roots in one cut). By AI agents, Wed Nov 11 2026. No macro, syntax, notation, axiom, sorry.
-/
import Derived.Test.YbulkapsyFmtChecked
import GoSem.Claim
import GoSem.ClaimJoined
import GoSem.ClaimMapViews
import Derived.JoinedTies
import Derived.KernelRfl
namespace Go.Proofs.YbulkapsyFmt
/- THE CELL 'sum', in the pinned program and in every row, IS THE sha256 OF THE DUMP (.gsa) THAT YbulkapsyFmtProg.lean LOADS. Nothing in Lean hashes anything: it is a label: what it is worth is what the hold of that sum in a sandbox is worth. -/
noncomputable def Ybaf.pinned : Pinned := { name := "ybulkapsyfmt", sum := "c0743979b6ad8ed349680464a22dcc4d86e4defcf87c1814a09d509dd662d3f7", checked := Ybaf.checked }
namespace Rows
def none {H : Type} : Left H := { results := [], args := [] }

/- WHAT THE LISTED PACKAGE-LEVEL VARIABLES READ AS WHEN THE CALL BEGINS. Each datum BY PROGRAM (the guide's laid-datum.mjs) off the statement by which the dump's own 'gosem.cut.vars' lays the variable. In a bare row this is a premise. The card (YbulkapsyFmtCards.lean) ties it to the program's text. -/
def laid_example_com_ballast_ballast_pkg_wire_errShort {H : Type} : DataW H := .iface "*errors.errorString" (.ptr (.agg [.lit (.string [109, 101, 115, 115, 97, 103, 101, 32, 101, 110, 100, 115, 32, 101, 97, 114, 108, 121])]))

/-- 'wire.LawS2065CHeaderRejected': WHATEVER THE INPUT: true; the input reads as it did. -/
def lawS2065CHeaderRejectedSpec : ChangeSpec := { name := "lawS2065CHeaderRejected", vars := ["example.com/ballast/ballast/pkg/wire.errShort"], fn := fun _ => fun
  | [d1, d2, d3, g1] => { results := [.lit (.bool true)], args := [d1, d2, d3], vars := [g1] }
  | _ => none }
def lawS2065CHeaderRejectedRow : OpenClaim := { program := "ybulkapsyfmt", sum := "c0743979b6ad8ed349680464a22dcc4d86e4defcf87c1814a09d509dd662d3f7", func := "example.com/ballast/ballast/pkg/wire.LawS2065CHeaderRejected", spec := "lawS2065CHeaderRejected", stops := ["fmt.errorf"], inPlace := ["fmt.errorf", "internal/reflectlite.TypeOf"], unfollowed := true, recurses := true, named := ["example.com/ballast/ballast/pkg/wire.errShort", "encoding/binary.BigEndian"], ifaces := true, apart := false, laid := [("example.com/ballast/ballast/pkg/wire.errShort", laid_example_com_ballast_ballast_pkg_wire_errShort)] }
/-- NO THEOREM (fmt's text is open here; it may be false): for the released tool's asking of the row's closed facts alone. THE STATEMENT IS 'LawS2065CHeaderRejectedToldSaid' (YbulkapsyFmtCards.lean). -/
def LawS2065CHeaderRejectedFormAsk : Prop := lawS2065CHeaderRejectedRow.holds Ybaf.pinned (OpenSpec.ofChange lawS2065CHeaderRejectedSpec)

/-- ITS FALSE NEIGHBOUR: 'it returns false'. Refute it at one input. -/
def lawS2065CHeaderRejectedWrong : ChangeSpec := { name := "lawS2065CHeaderRejected", vars := ["example.com/ballast/ballast/pkg/wire.errShort"], fn := fun _ => fun
  | [d1, d2, d3, g1] => { results := [.lit (.bool false)], args := [d1, d2, d3], vars := [g1] }
  | _ => none }
def LawS2065CHeaderRejectedWrongFormAsk : Prop := lawS2065CHeaderRejectedRow.holds Ybaf.pinned (OpenSpec.ofChange lawS2065CHeaderRejectedWrong)

/-- 'wire.LawS2065COnlyAnswers': WHATEVER THE INPUT: true; the input reads as it did. -/
def lawS2065COnlyAnswersSpec : ChangeSpec := { name := "lawS2065COnlyAnswers", vars := ["example.com/ballast/ballast/pkg/wire.errShort"], fn := fun _ => fun
  | [d1, d2, g1] => { results := [.lit (.bool true)], args := [d1, d2], vars := [g1] }
  | _ => none }
def lawS2065COnlyAnswersRow : OpenClaim := { program := "ybulkapsyfmt", sum := "c0743979b6ad8ed349680464a22dcc4d86e4defcf87c1814a09d509dd662d3f7", func := "example.com/ballast/ballast/pkg/wire.LawS2065COnlyAnswers", spec := "lawS2065COnlyAnswers", stops := ["fmt.errorf"], inPlace := ["fmt.errorf"], named := ["example.com/ballast/ballast/pkg/wire.errShort", "encoding/binary.BigEndian"], ifaces := true, apart := false, laid := [("example.com/ballast/ballast/pkg/wire.errShort", laid_example_com_ballast_ballast_pkg_wire_errShort)] }
/-- NO THEOREM (fmt's text is open here; it may be false): for the released tool's asking of the row's closed facts alone. THE STATEMENT IS 'LawS2065COnlyAnswersToldSaid' (YbulkapsyFmtCards.lean). -/
def LawS2065COnlyAnswersFormAsk : Prop := lawS2065COnlyAnswersRow.holds Ybaf.pinned (OpenSpec.ofChange lawS2065COnlyAnswersSpec)

/-- ITS FALSE NEIGHBOUR: 'it returns false'. Refute it at one input. -/
def lawS2065COnlyAnswersWrong : ChangeSpec := { name := "lawS2065COnlyAnswers", vars := ["example.com/ballast/ballast/pkg/wire.errShort"], fn := fun _ => fun
  | [d1, d2, g1] => { results := [.lit (.bool false)], args := [d1, d2], vars := [g1] }
  | _ => none }
def LawS2065COnlyAnswersWrongFormAsk : Prop := lawS2065COnlyAnswersRow.holds Ybaf.pinned (OpenSpec.ofChange lawS2065COnlyAnswersWrong)

end Rows
end Go.Proofs.YbulkapsyFmt
