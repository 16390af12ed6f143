/-
  errors.New and fmt.Errorf (its front stopped), at the three formats of this dump: each hands back a new error that is not nil, and turns nothing that was there. Whatever text fmt gives.
-/
import Derived.Test.YbulkapsyFmtProg
import Derived.WalkKit
import Derived.KernelRfl
import Derived.Stop.CallBack
import Derived.Stop.IfaceNil
import GoSem.ClaimData
namespace Go.Proofs.YbulkapsyFmt
open Go.RowKit Go.Extern.Stop Go.Stop Go.Extern

theorem new_any (s : ByteArray) (w : World) :
    Calls Ybaf.prog 14 #[.string s] w fun e w' => e = .returned (.iface 61 (.pointer (some ⟨w.heap.size, 0, none⟩))) ∧ w' = w.alloc (.cells #[.string s] 63) := by
  go_enter Ybaf.func14, Ybaf.ntmps14
  go_wp2
  go_ret
  exact ⟨rfl, rfl⟩

theorem call18 (args : Array Value) (w : World) : (callFunc 18 args).run Ybaf.prog w = ((FmtStop.errorf #[9, 64] #[25] args).run Ybaf.prog w).andThen fun v w' => .ok (.value v) w' :=
  run_callFunc_extern Ybaf.func18 (by kernel_rfl) (by kernel_rfl) (by kernel_rfl) (by kernel_rfl) args w
theorem guardRun (name : String) (w : World) : (FmtStop.guard name).run Ybaf.prog w = .ok () w := by kernel_rfl

-- the three formats
def fmtV : ByteArray := ⟨#[117, 110, 115, 117, 112, 112, 111, 114, 116, 101, 100, 32, 109, 101, 115, 115, 97, 103, 101, 32, 118, 101, 114, 115, 105, 111, 110, 32, 37, 100]⟩
def fmtK : ByteArray := ⟨#[109, 101, 115, 115, 97, 103, 101, 32, 111, 102, 32, 107, 105, 110, 100, 32, 37, 100, 44, 32, 119, 97, 110, 116, 32, 37, 100]⟩
def fmtB : ByteArray := ⟨#[37, 100, 32, 98, 121, 116, 101, 115, 32, 97, 102, 116, 101, 114, 32, 116, 104, 101, 32, 108, 97, 115, 116, 32, 102, 105, 101, 108, 100]⟩
theorem pV (w : World) : (FmtDoors.printed fmtV 1).run Ybaf.prog w = .ok [(0, 100, false)] w := by kernel_rfl
theorem pK (w : World) : (FmtDoors.printed fmtK 2).run Ybaf.prog w = .ok [(0, 100, false), (1, 100, false)] w := by kernel_rfl
theorem pB (w : World) : (FmtDoors.printed fmtB 1).run Ybaf.prog w = .ok [(0, 100, false)] w := by kernel_rfl
theorem pV' : FmtStop.printed? fmtV 1 = some [(0, 100, false)] := by kernel_rfl
theorem pK' : FmtStop.printed? fmtK 2 = some [(0, 100, false), (1, 100, false)] := by kernel_rfl
theorem pB' : FmtStop.printed? fmtB 1 = some [(0, 100, false)] := by kernel_rfl

-- the operands
theorem op5 (name : String) (x : Int) (w : World) : (FmtStop.operand name true 100 false (.iface 5 (.int .u8 x))).run Ybaf.prog w = .ok ([6, 5, 0, 0, 0, 0, 0, 0, 0, 117, 105, 110, 116, 56], Go.Extern.Stop.digits 8 (x % 2 ^ 64).toNat) w := by kernel_rfl
theorem op30 (name : String) (x : Int) (w : World) : (FmtStop.operand name true 100 false (.iface 30 (.int .u8 x))).run Ybaf.prog w = .ok ([6, 9, 0, 0, 0, 0, 0, 0, 0, 119, 105, 114, 101, 46, 75, 105, 110, 100], Go.Extern.Stop.digits 8 (x % 2 ^ 64).toNat) w := by kernel_rfl
theorem op3 (name : String) (x : Int) (w : World) : (FmtStop.operand name true 100 false (.iface 3 (.int .i64 x))).run Ybaf.prog w = .ok ([5, 3, 0, 0, 0, 0, 0, 0, 0, 105, 110, 116], Go.Extern.Stop.digits 8 (x % 2 ^ 64).toNat) w := by kernel_rfl

theorem ptr61 (w : World) : (FmtStop.ptrTo "errors.errorString").run Ybaf.prog w = .ok 61 w := by kernel_rfl
theorem elem61 (w : World) : (elemOf 61).run Ybaf.prog w = .ok 63 w := by kernel_rfl

/-- What a call of fmt.Errorf leaves: a new error, and what was there as it was. -/
def NewErr (w : World) (e : Ending) (w' : World) : Prop := (∃ a, e = .returned (.iface 61 (.pointer (some a)))) ∧ Below w.heap.size w w'

set_option maxHeartbeats 800000 in
theorem errorfV (x : Int) (b : Nat) (w : World) (hc : w.cell? ⟨b, 0, none⟩ = some (.iface 5 (.int .u8 x))) :
    Calls Ybaf.prog 15 #[.string ⟨#[117, 110, 115, 117, 112, 112, 111, 114, 116, 101, 100, 32, 109, 101, 115, 115, 97, 103, 101, 32, 118, 101, 114, 115, 105, 111, 110, 32, 37, 100]⟩, .slice (some ⟨b, 0, none⟩) 1 1] w (NewErr w) := by
  have q1 := call18
  have q2 := guardRun
  have q3 := pV
  have q3' := pV'
  unfold fmtV at q3 q3'
  have q4 := op5
  have q5 := ptr61
  have q6 := elem61
  go_enter Ybaf.func15, Ybaf.ntmps15
  go_wp2
  go_ret
  exact ⟨⟨_, rfl⟩, ((Below.refl _ w).alloc (Nat.le_refl _) _).drew⟩

set_option maxHeartbeats 800000 in
theorem errorfK (x y : Int) (b : Nat) (w : World) (hc : w.cell? ⟨b, 0, none⟩ = some (.iface 30 (.int .u8 x))) (hd : w.cell? ⟨b, 1, none⟩ = some (.iface 30 (.int .u8 y))) :
    Calls Ybaf.prog 15 #[.string ⟨#[109, 101, 115, 115, 97, 103, 101, 32, 111, 102, 32, 107, 105, 110, 100, 32, 37, 100, 44, 32, 119, 97, 110, 116, 32, 37, 100]⟩, .slice (some ⟨b, 0, none⟩) 2 2] w (NewErr w) := by
  have q1 := call18
  have q2 := guardRun
  have q3 := pK
  have q3' := pK'
  unfold fmtK at q3 q3'
  have q4 := op30
  have q5 := ptr61
  have q6 := elem61
  go_enter Ybaf.func15, Ybaf.ntmps15
  go_wp2
  go_ret
  exact ⟨⟨_, rfl⟩, ((Below.refl _ w).alloc (Nat.le_refl _) _).drew⟩

set_option maxHeartbeats 800000 in
theorem errorfB (x : Int) (b : Nat) (w : World) (hc : w.cell? ⟨b, 0, none⟩ = some (.iface 3 (.int .i64 x))) :
    Calls Ybaf.prog 15 #[.string ⟨#[37, 100, 32, 98, 121, 116, 101, 115, 32, 97, 102, 116, 101, 114, 32, 116, 104, 101, 32, 108, 97, 115, 116, 32, 102, 105, 101, 108, 100]⟩, .slice (some ⟨b, 0, none⟩) 1 1] w (NewErr w) := by
  have q1 := call18
  have q2 := guardRun
  have q3 := pB
  have q3' := pB'
  unfold fmtB at q3 q3'
  have q4 := op3
  have q5 := ptr61
  have q6 := elem61
  go_enter Ybaf.func15, Ybaf.ntmps15
  go_wp2
  go_ret
  exact ⟨⟨_, rfl⟩, ((Below.refl _ w).alloc (Nat.le_refl _) _).drew⟩

end Go.Proofs.YbulkapsyFmt
