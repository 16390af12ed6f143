/-
  No cell of these rows narrows 'for every input' (looked for: loops, veiled, ifaces, maps, wideKeys, modest, calm, conditions, laid).
  DERIVED. THE GIVEN ROWS OF THIS SEAT. 2 by the template 'for every input the law returns true; each argument reads behind the call as it read before'; 0 by the template 'total and deterministic' (their statements: YbulkaptmTotals.lean).
  GIVEN WITH THE SEED: the statements are not yours to turn. If you find one false, say at which input.
  Laid BY PROGRAM, IN A SANDBOX (cutbox-rows.mjs): the forced cells as the released guide's own fill.sh prints them over the translation dff2b118e1b68765… (all of the seat's roots in one cut). By AI agents, Wed Nov 11 2026. No macro, syntax, notation, axiom, sorry.
-/
import Derived.Test.YbulkaptmChecked
import GoSem.Claim
import GoSem.ClaimJoined
import GoSem.ClaimMapViews
import Derived.JoinedTies
import Derived.KernelRfl
namespace Go.Proofs.Ybulkaptm
/- THE CELL 'sum', in the pinned program and in every row, IS THE sha256 OF THE DUMP (.gsa) THAT YbulkaptmProg.lean LOADS. Nothing in Lean hashes anything: it is a label: what it is worth is what the hold of that sum in a sandbox is worth. -/
noncomputable def Yba.pinned : Pinned := { name := "ybulkaptm", sum := "dff2b118e1b687653bbe61207692ec5b68c83ac1045118162fd256f4c840d050", checked := Yba.checked }
namespace Rows
def none {H : Type} : Left H := { results := [], args := [] }

/-- 'diameter.LawS2066BEncodes': WHATEVER THE INPUT: true; the input reads as it did. -/
def lawS2066BEncodesSpec : ChangeSpec := { name := "lawS2066BEncodes", fn := fun _ => fun
  | [d1, d2, d3, d4, d5, d6] => { results := [.lit (.bool true)], args := [d1, d2, d3, d4, d5, d6] }
  | _ => none }
def lawS2066BEncodesRow : OpenClaim := { program := "ybulkaptm", sum := "dff2b118e1b687653bbe61207692ec5b68c83ac1045118162fd256f4c840d050", func := "example.com/ruleward/ruleward/internal/diameter.LawS2066BEncodes", spec := "lawS2066BEncodes", named := ["encoding/binary.BigEndian"], apart := false }
def LawS2066BEncodesSaid : Prop := lawS2066BEncodesRow.holds Yba.pinned (OpenSpec.ofChange lawS2066BEncodesSpec)

/-- ITS FALSE NEIGHBOUR: 'it returns false'. Refute it at one input. -/
def lawS2066BEncodesWrong : ChangeSpec := { name := "lawS2066BEncodes", fn := fun _ => fun
  | [d1, d2, d3, d4, d5, d6] => { results := [.lit (.bool false)], args := [d1, d2, d3, d4, d5, d6] }
  | _ => none }
def LawS2066BEncodesWrongFalsely : Prop := lawS2066BEncodesRow.holds Yba.pinned (OpenSpec.ofChange lawS2066BEncodesWrong)

/-- 'diameter.LawS2066BConcat': WHATEVER THE INPUT: true; the input reads as it did. -/
def lawS2066BConcatSpec : ChangeSpec := { name := "lawS2066BConcat", fn := fun _ => fun
  | [d1, d2, d3, d4, d5] => { results := [.lit (.bool true)], args := [d1, d2, d3, d4, d5] }
  | _ => none }
def lawS2066BConcatRow : OpenClaim := { program := "ybulkaptm", sum := "dff2b118e1b687653bbe61207692ec5b68c83ac1045118162fd256f4c840d050", func := "example.com/ruleward/ruleward/internal/diameter.LawS2066BConcat", spec := "lawS2066BConcat", named := ["encoding/binary.BigEndian"], apart := false }
def LawS2066BConcatSaid : Prop := lawS2066BConcatRow.holds Yba.pinned (OpenSpec.ofChange lawS2066BConcatSpec)

/-- ITS FALSE NEIGHBOUR: 'it returns false'. Refute it at one input. -/
def lawS2066BConcatWrong : ChangeSpec := { name := "lawS2066BConcat", fn := fun _ => fun
  | [d1, d2, d3, d4, d5] => { results := [.lit (.bool false)], args := [d1, d2, d3, d4, d5] }
  | _ => none }
def LawS2066BConcatWrongFalsely : Prop := lawS2066BConcatRow.holds Yba.pinned (OpenSpec.ofChange lawS2066BConcatWrong)

end Rows
end Go.Proofs.Ybulkaptm
