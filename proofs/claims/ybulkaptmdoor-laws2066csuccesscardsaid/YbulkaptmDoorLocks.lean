/-
  The numbers under which this dump holds sync.Mutex, and that it holds it.
-/
import Derived.Test.YbulkaptmDoorProg
import Derived.Conc.MuLone
import Derived.KernelRfl
namespace Go.Proofs.YbulkaptmDoor
abbrev muLink : Go.Conc.Locks.MuLink := { lock := 32, unlock := 33, ilock := 42, iunlock := 43, lockSlow := 51, unlockSlow := 54, disable := 47, enable := 49, acquire := 50, relMerge := 52, cas32 := 48, add32 := 53, tMutex := 72, tIMutex := 70, tPMutex := 154, tPIMutex := 157, tPI32 := 159, tUP := 104, tNoCopy := 65, tU32 := 22 }
theorem muLib : Go.Conc.Locks.MuLib Ybad.prog muLink :=
  ⟨Ybad.func32, Ybad.func33, Ybad.func42, Ybad.func43, Ybad.func47, Ybad.func49, Ybad.func50, Ybad.func52, Ybad.func48, Ybad.func53, Ybad.underlying70, Ybad.runUnderlying70, Ybad.sizeOf70, Ybad.isAgg70, Ybad.zeroValue70, Ybad.underlying72, Ybad.runUnderlying72, Ybad.sizeOf72, Ybad.isAgg72, Ybad.zeroValue72, Ybad.underlying154, Ybad.runUnderlying154, Ybad.sizeOf154, Ybad.isAgg154, Ybad.zeroValue154, Ybad.underlying157, Ybad.runUnderlying157, Ybad.sizeOf157, Ybad.isAgg157, Ybad.zeroValue157, Ybad.underlying159, Ybad.runUnderlying159, Ybad.sizeOf159, Ybad.isAgg159, Ybad.zeroValue159, Ybad.underlying104, Ybad.runUnderlying104, Ybad.sizeOf104, Ybad.isAgg104, Ybad.zeroValue104, Ybad.underlying65, Ybad.runUnderlying65, Ybad.sizeOf65, Ybad.isAgg65, Ybad.zeroValue65, Ybad.underlying21, Ybad.runUnderlying21, Ybad.sizeOf21, Ybad.isAgg21, Ybad.zeroValue21, (by kernel_rfl)⟩
end Go.Proofs.YbulkaptmDoor
