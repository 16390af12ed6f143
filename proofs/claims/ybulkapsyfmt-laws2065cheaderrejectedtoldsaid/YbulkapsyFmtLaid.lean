/-
  What both rows of this seat want of the program: closed facts; the witness' heap (the door's own run); errShort, off 'laid'.
-/
import Derived.Test.YbulkapsyFmtRows
import Derived.LaidMore
import Derived.Stop.Joined
import Derived.Stop.LaidErr
import Derived.ProofKit
import Derived.KernelRfl
namespace Go.Proofs.YbulkapsyFmt
open Go.ChangeShapes Go.WideShapes Go.ChangeAt Go.RowKit
open Go.Extern.Stop Go.Stop Go.Extern

theorem own : ownKnob Ybaf.prog.godebug = none := by kernel_rfl
theorem laidOut : laidOutB Ybaf.prog = true := by kernel_rfl
theorem laidOutC : laidOutB Ybaf.pinned.checked.prog = true := by kernel_rfl
theorem stops : Ybaf.pinned.checked.prog.stops = ["fmt.errorf"] := by kernel_rfl
theorem stopKnobs : Ybaf.pinned.checked.prog.stopKnobs = [] := by kernel_rfl
theorem quiet (os : Os) : Stop.quiet Ybaf.pinned.checked.prog os := by
  intro k hk
  rw [stopKnobs] at hk
  cases hk
/-- The listed variable's name, and its datum's dynamic type's name, as the given rows have them. -/
def vn : String := Rows.lawS2065COnlyAnswersSpec.vars.headD ""
def dn : String := match (Rows.laid_example_com_ballast_ballast_pkg_wire_errShort : DataW Unit) with | .iface n _ => n | _ => ""
theorem gS : Ybaf.prog.globalNamed vn = some 0 := by kernel_rfl
theorem gSType : (Ybaf.prog.globals[0]?).map (·.type) = some 25 := by kernel_rfl
theorem cells63 : Ybaf.prog.cellsOf 63 = 1 := by kernel_rfl
theorem cells9 : Ybaf.prog.cellsOf 9 = 1 := by kernel_rfl
theorem row61 (u : TypeId) (h : Ybaf.prog.typeName? 3 u = some dn) : u = 61 :=
  typeName_ptr_named (nm := "errors.errorString") (by kernel_rfl) (by kernel_rfl) (by decide) u (h.trans (by kernel_rfl))

/-- The door's own heap meets the condition. -/
theorem door_met (os : Os) (args : Array Value) : laidMetH Ybaf.prog [(vn, Rows.laid_example_com_ballast_ballast_pkg_wire_errShort)] ((World.doorLaid Ybaf.prog 400 os).forCall (fun _ _ => 0) ⟨#[], args, []⟩).memory :=
  laidMetH_of_parts3 (fuel := 8) (laidMet_of_run' 8 (by kernel_rfl) (by kernel_rfl)) (by kernel_rfl) (by kernel_rfl)

/-- errShort holds a pointer to an error of errors.New's make. -/
theorem of_laid {W : World} (h : laidMetH Ybaf.prog [(vn, Rows.laid_example_com_ballast_ballast_pkg_wire_errShort)] W) :
    ∃ a s, W.var? Ybaf.prog vn = some #[.iface 61 (.pointer (some a))] ∧ W.cell? a = some (.string s) ∧ W.cell? ⟨0, 0, none⟩ = some (.iface 61 (.pointer (some a))) := by
  rw [MakeChecks.laidMetH_plain _ _ _ (by kernel_rfl)] at h
  obtain ⟨a, s, hv, hc, _, _⟩ := laid_sentinel h gS gSType Ybaf.underlying25 row61 Ybaf.underlying61 Ybaf.underlying63 rfl rfl Ybaf.underlying9 cells63 cells9
  exact ⟨a, s, hv, hc, by simpa using World.var?_cell gS hv 0⟩
end Go.Proofs.YbulkapsyFmt
