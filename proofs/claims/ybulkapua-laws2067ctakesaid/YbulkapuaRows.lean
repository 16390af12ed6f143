/-
  No cell of these rows narrows 'for every input' (looked for: loops, veiled, ifaces, maps, wideKeys, modest, calm, conditions, laid).
  DERIVED. THE GIVEN ROWS OF THIS SEAT. 2 by the template 'for every input the law returns true; each argument reads behind the call as it read before'; 0 by the template 'total and deterministic' (their statements: YbulkapuaTotals.lean).
  GIVEN WITH THE SEED: the statements are not yours to turn. If you find one false, say at which input.
  Laid BY PROGRAM, IN A SANDBOX (cutbox-rows.mjs): the forced cells as the released guide's own fill.sh prints them over the translation 8348b1f9e1c9bc0e… (all of the seat's roots in one cut). By AI agents, Wed Nov 11 2026. No macro, syntax, notation, axiom, sorry.
-/
import Derived.Test.YbulkapuaChecked
import GoSem.Claim
import GoSem.ClaimJoined
import GoSem.ClaimMapViews
import Derived.JoinedTies
import Derived.KernelRfl
namespace Go.Proofs.Ybulkapua
/- THE CELL 'sum', in the pinned program and in every row, IS THE sha256 OF THE DUMP (.gsa) THAT YbulkapuaProg.lean LOADS. Nothing in Lean hashes anything: it is a label: what it is worth is what the hold of that sum in a sandbox is worth. -/
noncomputable def Yba.pinned : Pinned := { name := "ybulkapua", sum := "8348b1f9e1c9bc0ea323eaf50f2292e2d322bf2619913eb4cf2ac076f1cfe437", checked := Yba.checked }
namespace Rows
def none {H : Type} : Left H := { results := [], args := [] }

/-- 'scheduler.LawS2067CTake': WHATEVER THE INPUT: true; the input reads as it did. -/
def lawS2067CTakeSpec : ChangeSpec := { name := "lawS2067CTake", fn := fun _ => fun
  | [d1, d2, d3, d4, d5, d6] => { results := [.lit (.bool true)], args := [d1, d2, d3, d4, d5, d6] }
  | _ => none }
def lawS2067CTakeRow : OpenClaim := { program := "ybulkapua", sum := "8348b1f9e1c9bc0ea323eaf50f2292e2d322bf2619913eb4cf2ac076f1cfe437", func := "example.com/stowage/stowage/scheduler.LawS2067CTake", spec := "lawS2067CTake", inPlace := ["(*internal/sync.Mutex).Lock", "internal/race.Disable", "sync/atomic.CompareAndSwapInt32", "internal/race.Enable", "internal/race.Acquire", "(*internal/sync.Mutex).lockSlow", "internal/sync.runtime_canSpin", "internal/sync.runtime_doSpin", "internal/sync.throw", "internal/sync.runtime_nanotime", "internal/sync.runtime_SemacquireMutex", "sync/atomic.AddInt32", "(*internal/sync.Mutex).Unlock", "internal/race.ReleaseMerge", "(*internal/sync.Mutex).unlockSlow", "internal/sync.fatal", "internal/sync.runtime_Semrelease"], plainKeys := false, apart := false }
def LawS2067CTakeSaid : Prop := lawS2067CTakeRow.holds Yba.pinned (OpenSpec.ofChange lawS2067CTakeSpec)

/-- ITS FALSE NEIGHBOUR: 'it returns false'. Refute it at one input. -/
def lawS2067CTakeWrong : ChangeSpec := { name := "lawS2067CTake", fn := fun _ => fun
  | [d1, d2, d3, d4, d5, d6] => { results := [.lit (.bool false)], args := [d1, d2, d3, d4, d5, d6] }
  | _ => none }
def LawS2067CTakeWrongFalsely : Prop := lawS2067CTakeRow.holds Yba.pinned (OpenSpec.ofChange lawS2067CTakeWrong)

/-- 'scheduler.LawS2067CDrain': WHATEVER THE INPUT: true; the input reads as it did. -/
def lawS2067CDrainSpec : ChangeSpec := { name := "lawS2067CDrain", fn := fun _ => fun
  | [d1, d2] => { results := [.lit (.bool true)], args := [d1, d2] }
  | _ => none }
def lawS2067CDrainRow : OpenClaim := { program := "ybulkapua", sum := "8348b1f9e1c9bc0ea323eaf50f2292e2d322bf2619913eb4cf2ac076f1cfe437", func := "example.com/stowage/stowage/scheduler.LawS2067CDrain", spec := "lawS2067CDrain", inPlace := ["(*internal/sync.Mutex).Lock", "internal/race.Disable", "sync/atomic.CompareAndSwapInt32", "internal/race.Enable", "internal/race.Acquire", "(*internal/sync.Mutex).lockSlow", "internal/sync.runtime_canSpin", "internal/sync.runtime_doSpin", "internal/sync.throw", "internal/sync.runtime_nanotime", "internal/sync.runtime_SemacquireMutex", "sync/atomic.AddInt32", "(*internal/sync.Mutex).Unlock", "internal/race.ReleaseMerge", "(*internal/sync.Mutex).unlockSlow", "internal/sync.fatal", "internal/sync.runtime_Semrelease"], plainKeys := false, apart := false }
def LawS2067CDrainSaid : Prop := lawS2067CDrainRow.holds Yba.pinned (OpenSpec.ofChange lawS2067CDrainSpec)

/-- ITS FALSE NEIGHBOUR: 'it returns false'. Refute it at one input. -/
def lawS2067CDrainWrong : ChangeSpec := { name := "lawS2067CDrain", fn := fun _ => fun
  | [d1, d2] => { results := [.lit (.bool false)], args := [d1, d2] }
  | _ => none }
def LawS2067CDrainWrongFalsely : Prop := lawS2067CDrainRow.holds Yba.pinned (OpenSpec.ofChange lawS2067CDrainWrong)

end Rows
end Go.Proofs.Ybulkapua
