/-
  No cell of these rows narrows 'for every input' (looked for: loops, veiled, ifaces, maps, wideKeys, modest, calm, conditions, laid).
  DERIVED. THE GIVEN ROWS OF THIS SEAT. 1 by the template 'for every input the law returns true; each argument reads behind the call as it read before'; 0 by the template 'total and deterministic' (their statements: YbulkapsyTotals.lean).
  GIVEN WITH THE SEED: the statements are not yours to turn. If you find one false, say at which input.
  Laid BY PROGRAM, IN A SANDBOX (cutbox-rows.mjs): the forced cells as the released guide's own fill.sh prints them over the translation f45149d9dee3e313… (all of the seat's roots in one cut). By AI agents, Wed Nov 11 2026. No macro, syntax, notation, axiom, sorry.
-/
import Derived.Test.YbulkapsyChecked
import GoSem.Claim
import GoSem.ClaimJoined
import GoSem.ClaimMapViews
import Derived.JoinedTies
import Derived.KernelRfl
namespace Go.Proofs.Ybulkapsy
/- THE CELL 'sum', in the pinned program and in every row, IS THE sha256 OF THE DUMP (.gsa) THAT YbulkapsyProg.lean LOADS. Nothing in Lean hashes anything: it is a label: what it is worth is what the hold of that sum in a sandbox is worth. -/
noncomputable def Yba.pinned : Pinned := { name := "ybulkapsy", sum := "f45149d9dee3e31378c69b530b3d6aaf5bdf87fbb699491d74bd87f7cab6472a", checked := Yba.checked }
namespace Rows
def none {H : Type} : Left H := { results := [], args := [] }

/-- 'transport.LawS2065BHeld': WHATEVER THE INPUT: true; the input reads as it did. -/
def lawS2065BHeldSpec : ChangeSpec := { name := "lawS2065BHeld", fn := fun _ => fun
  | [d1, d2, d3] => { results := [.lit (.bool true)], args := [d1, d2, d3] }
  | _ => none }
def lawS2065BHeldRow : OpenClaim := { program := "ybulkapsy", sum := "f45149d9dee3e31378c69b530b3d6aaf5bdf87fbb699491d74bd87f7cab6472a", func := "example.com/ballast/ballast/pkg/transport.LawS2065BHeld", spec := "lawS2065BHeld", apart := false }
def LawS2065BHeldSaid : Prop := lawS2065BHeldRow.holds Yba.pinned (OpenSpec.ofChange lawS2065BHeldSpec)

/-- ITS FALSE NEIGHBOUR: 'it returns false'. Refute it at one input. -/
def lawS2065BHeldWrong : ChangeSpec := { name := "lawS2065BHeld", fn := fun _ => fun
  | [d1, d2, d3] => { results := [.lit (.bool false)], args := [d1, d2, d3] }
  | _ => none }
def LawS2065BHeldWrongFalsely : Prop := lawS2065BHeldRow.holds Yba.pinned (OpenSpec.ofChange lawS2065BHeldWrong)

end Rows
end Go.Proofs.Ybulkapsy
