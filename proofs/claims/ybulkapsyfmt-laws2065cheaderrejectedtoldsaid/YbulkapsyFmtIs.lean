/-
  errors.Is(x, x), x a pointer to an errors.errorString (after the guide's SentryIs.lean, at this dump's numbers).
-/
import Derived.Test.YbulkapsyFmtProg
import Derived.WalkKit
import Derived.LaidEql
import Derived.KernelRfl
namespace Go.Proofs.YbulkapsyFmt
open Go.RowKit Go.Extern.Stop Go.Stop Go.Extern

theorem callTypeOf (v : Value) (w : World) : (callFunc 12 #[.iface 61 v]).run Ybaf.prog w = .ok (.value (.iface 52 (.agg #[.pointer (some ⟨2, 61, none⟩)]))) w := by kernel_rfl
theorem callComparable (w : World) : (callFunc 39 #[.agg #[.pointer (some ⟨2, 61, none⟩)]]).run Ybaf.prog w = .ok (.value (.bool true)) w := by kernel_rfl
theorem isMethodComparable (v : Value) (w : World) : (Go.method 208 52 v "Comparable").run Ybaf.prog w = .ok (39, v) w := by kernel_rfl
theorem isComp : (Ybaf.prog.info? 61).map (·.comparable) = some true := by kernel_rfl
theorem isSize : (Ybaf.prog.info? 63).map (·.size) = some 1 := by kernel_rfl

theorem is_same (a : Addr) (w : World) :
    Calls Ybaf.prog 7 #[.iface 61 (.pointer (some a)), .iface 61 (.pointer (some a))] w fun e w' => e = .returned (.bool true) ∧ w' = w := by
  obtain ⟨i, hi, hcmp⟩ := Option.map_eq_some_iff.1 isComp
  obtain ⟨j, hj, hjs⟩ := Option.map_eq_some_iff.1 isSize
  have tT := callTypeOf
  have cT := callComparable
  have mR := isMethodComparable
  have heq := run_eql_iface_ptr_same (P := Ybaf.prog) w a Ybaf.underlying25 Ybaf.underlying61 hi hcmp hj
  go_enter Ybaf.func7, Ybaf.ntmps7
  go_wp2
  refine wp_loop_rounds 1 ?_
  rw [rounds_succ]
  go_wp2
  go_ret
  exact ⟨rfl, rfl⟩
end Go.Proofs.YbulkapsyFmt
