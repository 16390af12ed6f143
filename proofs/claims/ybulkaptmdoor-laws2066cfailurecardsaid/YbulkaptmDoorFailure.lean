/-
  The Failure law, whole.
-/
import Derived.Test.YbulkaptmDoorLawA
import Derived.Test.YbulkaptmDoorLawV
import Derived.Test.YbulkaptmDoorLaw3
import Derived.Test.YbulkaptmDoorLaw0
namespace Go.Proofs.YbulkaptmDoor
open Go.RowKit
set_option linter.unusedVariables false
set_option linter.unusedSimpArgs false
set_option maxRecDepth 100000

set_option maxHeartbeats 1600000 in
theorem early_1 (fl cmd app hop ete : Int) (ws : Bool) (sa : Option Addr) (sl sc : Nat) (host realm prod : ByteArray) (st i0 i1 i2 i3 port : Int) (ia : Option Addr) (il ic : Nat) (va : Option Addr) (vl vc : Nat) (kind r v fc : Int) (wf : Bool) (w : World) (h1 : ¬ il ≤ 1024) :
    Calls Ybad.prog 4 #[.agg #[.int .u8 fl, .int .u32 cmd, .int .u32 app, .int .u32 hop, .int .u32 ete, .bool ws, .slice sa sl sc, .string host, .string realm, .string prod, .int .u32 st, .int .u8 i0, .int .u8 i1, .int .u8 i2, .int .u8 i3, .int .u16 port, .slice ia il ic, .slice va vl vc], .int .u8 kind, .int .u32 r, .int .u32 v, .bool wf, .int .u32 fc] w fun e w' => e = .returned (.bool true) ∧ w.grownBy w' none := by
  have l1 : (1024 : Int) < (il : Int) := by omega
  have c16 : (w.alloc (.cells #[.int .u8 fl, .int .u32 cmd, .int .u32 app, .int .u32 hop, .int .u32 ete, .bool ws, .slice sa sl sc, .string host, .string realm, .string prod, .int .u32 st, .int .u8 i0, .int .u8 i1, .int .u8 i2, .int .u8 i3, .int .u16 port, .slice ia il ic, .slice va vl vc] 28)).cell? ⟨w.heap.size, 16, none⟩ = some (.slice ia il ic) := cellOf (heap_alloc_new _ _)
  have c17 : (w.alloc (.cells #[.int .u8 fl, .int .u32 cmd, .int .u32 app, .int .u32 hop, .int .u32 ete, .bool ws, .slice sa sl sc, .string host, .string realm, .string prod, .int .u32 st, .int .u8 i0, .int .u8 i1, .int .u8 i2, .int .u8 i3, .int .u16 port, .slice ia il ic, .slice va vl vc] 28)).cell? ⟨w.heap.size, 17, none⟩ = some (.slice va vl vc) := cellOf (heap_alloc_new _ _)
  have c6 : (w.alloc (.cells #[.int .u8 fl, .int .u32 cmd, .int .u32 app, .int .u32 hop, .int .u32 ete, .bool ws, .slice sa sl sc, .string host, .string realm, .string prod, .int .u32 st, .int .u8 i0, .int .u8 i1, .int .u8 i2, .int .u8 i3, .int .u16 port, .slice ia il ic, .slice va vl vc] 28)).cell? ⟨w.heap.size, 6, none⟩ = some (.slice sa sl sc) := cellOf (heap_alloc_new _ _)
  go_enter Ybad.func4, Ybad.ntmps4
  go_wp2
  go_ret
  exact ⟨rfl, World.grownBy_alloc _ _ _⟩

set_option maxHeartbeats 1600000 in
theorem early_2 (fl cmd app hop ete : Int) (ws : Bool) (sa : Option Addr) (sl sc : Nat) (host realm prod : ByteArray) (st i0 i1 i2 i3 port : Int) (ia : Option Addr) (il ic : Nat) (va : Option Addr) (vl vc : Nat) (kind r v fc : Int) (wf : Bool) (w : World) (h1 : il ≤ 1024) (h2 : ¬ vl ≤ 1024) :
    Calls Ybad.prog 4 #[.agg #[.int .u8 fl, .int .u32 cmd, .int .u32 app, .int .u32 hop, .int .u32 ete, .bool ws, .slice sa sl sc, .string host, .string realm, .string prod, .int .u32 st, .int .u8 i0, .int .u8 i1, .int .u8 i2, .int .u8 i3, .int .u16 port, .slice ia il ic, .slice va vl vc], .int .u8 kind, .int .u32 r, .int .u32 v, .bool wf, .int .u32 fc] w fun e w' => e = .returned (.bool true) ∧ w.grownBy w' none := by
  have l1 : ¬ (1024 : Int) < (il : Int) := by omega
  have l2 : (1024 : Int) < (vl : Int) := by omega
  have c16 : (w.alloc (.cells #[.int .u8 fl, .int .u32 cmd, .int .u32 app, .int .u32 hop, .int .u32 ete, .bool ws, .slice sa sl sc, .string host, .string realm, .string prod, .int .u32 st, .int .u8 i0, .int .u8 i1, .int .u8 i2, .int .u8 i3, .int .u16 port, .slice ia il ic, .slice va vl vc] 28)).cell? ⟨w.heap.size, 16, none⟩ = some (.slice ia il ic) := cellOf (heap_alloc_new _ _)
  have c17 : (w.alloc (.cells #[.int .u8 fl, .int .u32 cmd, .int .u32 app, .int .u32 hop, .int .u32 ete, .bool ws, .slice sa sl sc, .string host, .string realm, .string prod, .int .u32 st, .int .u8 i0, .int .u8 i1, .int .u8 i2, .int .u8 i3, .int .u16 port, .slice ia il ic, .slice va vl vc] 28)).cell? ⟨w.heap.size, 17, none⟩ = some (.slice va vl vc) := cellOf (heap_alloc_new _ _)
  have c6 : (w.alloc (.cells #[.int .u8 fl, .int .u32 cmd, .int .u32 app, .int .u32 hop, .int .u32 ete, .bool ws, .slice sa sl sc, .string host, .string realm, .string prod, .int .u32 st, .int .u8 i0, .int .u8 i1, .int .u8 i2, .int .u8 i3, .int .u16 port, .slice ia il ic, .slice va vl vc] 28)).cell? ⟨w.heap.size, 6, none⟩ = some (.slice sa sl sc) := cellOf (heap_alloc_new _ _)
  go_enter Ybad.func4, Ybad.ntmps4
  go_wp2
  go_ret
  exact ⟨rfl, World.grownBy_alloc _ _ _⟩

set_option maxHeartbeats 1600000 in
theorem early_3 (fl cmd app hop ete : Int) (ws : Bool) (sa : Option Addr) (sl sc : Nat) (host realm prod : ByteArray) (st i0 i1 i2 i3 port : Int) (ia : Option Addr) (il ic : Nat) (va : Option Addr) (vl vc : Nat) (kind r v fc : Int) (wf : Bool) (w : World) (h1 : il ≤ 1024) (h2 : vl ≤ 1024) (h3 : ¬ sl ≤ 1024) :
    Calls Ybad.prog 4 #[.agg #[.int .u8 fl, .int .u32 cmd, .int .u32 app, .int .u32 hop, .int .u32 ete, .bool ws, .slice sa sl sc, .string host, .string realm, .string prod, .int .u32 st, .int .u8 i0, .int .u8 i1, .int .u8 i2, .int .u8 i3, .int .u16 port, .slice ia il ic, .slice va vl vc], .int .u8 kind, .int .u32 r, .int .u32 v, .bool wf, .int .u32 fc] w fun e w' => e = .returned (.bool true) ∧ w.grownBy w' none := by
  have l1 : ¬ (1024 : Int) < (il : Int) := by omega
  have l2 : ¬ (1024 : Int) < (vl : Int) := by omega
  have l3 : (1024 : Int) < (sl : Int) := by omega
  have c16 : (w.alloc (.cells #[.int .u8 fl, .int .u32 cmd, .int .u32 app, .int .u32 hop, .int .u32 ete, .bool ws, .slice sa sl sc, .string host, .string realm, .string prod, .int .u32 st, .int .u8 i0, .int .u8 i1, .int .u8 i2, .int .u8 i3, .int .u16 port, .slice ia il ic, .slice va vl vc] 28)).cell? ⟨w.heap.size, 16, none⟩ = some (.slice ia il ic) := cellOf (heap_alloc_new _ _)
  have c17 : (w.alloc (.cells #[.int .u8 fl, .int .u32 cmd, .int .u32 app, .int .u32 hop, .int .u32 ete, .bool ws, .slice sa sl sc, .string host, .string realm, .string prod, .int .u32 st, .int .u8 i0, .int .u8 i1, .int .u8 i2, .int .u8 i3, .int .u16 port, .slice ia il ic, .slice va vl vc] 28)).cell? ⟨w.heap.size, 17, none⟩ = some (.slice va vl vc) := cellOf (heap_alloc_new _ _)
  have c6 : (w.alloc (.cells #[.int .u8 fl, .int .u32 cmd, .int .u32 app, .int .u32 hop, .int .u32 ete, .bool ws, .slice sa sl sc, .string host, .string realm, .string prod, .int .u32 st, .int .u8 i0, .int .u8 i1, .int .u8 i2, .int .u8 i3, .int .u16 port, .slice ia il ic, .slice va vl vc] 28)).cell? ⟨w.heap.size, 6, none⟩ = some (.slice sa sl sc) := cellOf (heap_alloc_new _ _)
  go_enter Ybad.func4, Ybad.ntmps4
  go_wp2
  go_ret
  exact ⟨rfl, World.grownBy_alloc _ _ _⟩

theorem failure_any (fl cmd app hop ete : Int) (ws : Bool) (sa : Option Addr) (sl sc : Nat) (host realm prod : ByteArray) (st i0 i1 i2 i3 port : Int) (ia : Option Addr) (il ic : Nat) (va : Option Addr) (vl vc : Nat) (kind r v fc : Int) (wf : Bool) (ids vends sid : List Int) (nm : Nat → ByteArray) (z : Addr) (w : World) (hG : Globs w nm z)
    (hI : IsRow .u32 w ia il ic ids) (hV : IsRow .u32 w va vl vc vends) (hSd : IsRow .u8 w sa sl sc sid) (hst0 : 0 ≤ st) (hst1 : st < 4294967296)
    (hr : (0 ≤ i0 ∧ i0 ≤ 255) ∧ (0 ≤ i1 ∧ i1 ≤ 255) ∧ (0 ≤ i2 ∧ i2 ≤ 255) ∧ (0 ≤ i3 ∧ i3 ≤ 255)) (hr0 : 0 ≤ r) (hr1 : r < 4294967296) (hv0 : 0 ≤ v) (hv1 : v < 4294967296) (hf0 : 0 ≤ fc) (hf1 : fc < 4294967296) (hk0 : 0 ≤ kind) :
    Calls Ybad.prog 4 #[.agg #[.int .u8 fl, .int .u32 cmd, .int .u32 app, .int .u32 hop, .int .u32 ete, .bool ws, .slice sa sl sc, .string host, .string realm, .string prod, .int .u32 st, .int .u8 i0, .int .u8 i1, .int .u8 i2, .int .u8 i3, .int .u16 port, .slice ia il ic, .slice va vl vc], .int .u8 kind, .int .u32 r, .int .u32 v, .bool wf, .int .u32 fc] w fun e w' => e = .returned (.bool true) ∧ w.grownBy w' none := by
  by_cases h1 : il ≤ 1024
  case neg => exact early_1 fl cmd app hop ete ws sa sl sc host realm prod st i0 i1 i2 i3 port ia il ic va vl vc kind r v fc wf w h1
  by_cases h2 : vl ≤ 1024
  case neg => exact early_2 fl cmd app hop ete ws sa sl sc host realm prod st i0 i1 i2 i3 port ia il ic va vl vc kind r v fc wf w h1 h2
  by_cases h3 : sl ≤ 1024
  case neg => exact early_3 fl cmd app hop ete ws sa sl sc host realm prod st i0 i1 i2 i3 port ia il ic va vl vc kind r v fc wf w h1 h2 h3
  by_cases hk : kind % 2 = 0
  · cases ws with
    | false => exact law_A_FF fl cmd app hop ete sa sl sc host realm prod st i0 i1 i2 i3 port ia il ic va vl vc kind r fc v wf ids vends sid nm z w hG h1 h2 h3 hI hV hSd hst0 hst1 hr hr0 hr1 hf0 hf1 hk0 hk
    | true => exact law_A_TF fl cmd app hop ete sa sl sc host realm prod st i0 i1 i2 i3 port ia il ic va vl vc kind r fc v wf ids vends sid nm z w hG h1 h2 h3 hI hV hSd hst0 hst1 hr hr0 hr1 hf0 hf1 hk0 hk
  by_cases hv : v = 0
  · subst hv
    by_cases hq : r / 1000 = 3
    · cases ws with
      | false => cases wf with
        | false => exact law_3_FF fl cmd app hop ete sa sl sc host realm prod st i0 i1 i2 i3 port ia il ic va vl vc kind r fc ids vends sid nm z w hG h1 h2 h3 hI hV hSd hst0 hst1 hr hr0 hr1 hf0 hf1 hk0 hk hq
        | true => exact law_3_FT fl cmd app hop ete sa sl sc host realm prod st i0 i1 i2 i3 port ia il ic va vl vc kind r fc ids vends sid nm z w hG h1 h2 h3 hI hV hSd hst0 hst1 hr hr0 hr1 hf0 hf1 hk0 hk hq
      | true => cases wf with
        | false => exact law_3_TF fl cmd app hop ete sa sl sc host realm prod st i0 i1 i2 i3 port ia il ic va vl vc kind r fc ids vends sid nm z w hG h1 h2 h3 hI hV hSd hst0 hst1 hr hr0 hr1 hf0 hf1 hk0 hk hq
        | true => exact law_3_TT fl cmd app hop ete sa sl sc host realm prod st i0 i1 i2 i3 port ia il ic va vl vc kind r fc ids vends sid nm z w hG h1 h2 h3 hI hV hSd hst0 hst1 hr hr0 hr1 hf0 hf1 hk0 hk hq
    · cases ws with
      | false => cases wf with
        | false => exact law_0_FF fl cmd app hop ete sa sl sc host realm prod st i0 i1 i2 i3 port ia il ic va vl vc kind r fc ids vends sid nm z w hG h1 h2 h3 hI hV hSd hst0 hst1 hr hr0 hr1 hf0 hf1 hk0 hk hq
        | true => exact law_0_FT fl cmd app hop ete sa sl sc host realm prod st i0 i1 i2 i3 port ia il ic va vl vc kind r fc ids vends sid nm z w hG h1 h2 h3 hI hV hSd hst0 hst1 hr hr0 hr1 hf0 hf1 hk0 hk hq
      | true => cases wf with
        | false => exact law_0_TF fl cmd app hop ete sa sl sc host realm prod st i0 i1 i2 i3 port ia il ic va vl vc kind r fc ids vends sid nm z w hG h1 h2 h3 hI hV hSd hst0 hst1 hr hr0 hr1 hf0 hf1 hk0 hk hq
        | true => exact law_0_TT fl cmd app hop ete sa sl sc host realm prod st i0 i1 i2 i3 port ia il ic va vl vc kind r fc ids vends sid nm z w hG h1 h2 h3 hI hV hSd hst0 hst1 hr hr0 hr1 hf0 hf1 hk0 hk hq
  · cases ws with
    | false => cases wf with
      | false => exact law_V_FF fl cmd app hop ete sa sl sc host realm prod st i0 i1 i2 i3 port ia il ic va vl vc kind r fc v ids vends sid nm z w hG h1 h2 h3 hI hV hSd hst0 hst1 hr hr0 hr1 hf0 hf1 hk0 hk hv0 hv1 hv
      | true => exact law_V_FT fl cmd app hop ete sa sl sc host realm prod st i0 i1 i2 i3 port ia il ic va vl vc kind r fc v ids vends sid nm z w hG h1 h2 h3 hI hV hSd hst0 hst1 hr hr0 hr1 hf0 hf1 hk0 hk hv0 hv1 hv
    | true => cases wf with
      | false => exact law_V_TF fl cmd app hop ete sa sl sc host realm prod st i0 i1 i2 i3 port ia il ic va vl vc kind r fc v ids vends sid nm z w hG h1 h2 h3 hI hV hSd hst0 hst1 hr hr0 hr1 hf0 hf1 hk0 hk hv0 hv1 hv
      | true => exact law_V_TT fl cmd app hop ete sa sl sc host realm prod st i0 i1 i2 i3 port ia il ic va vl vc kind r fc v ids vends sid nm z w hG h1 h2 h3 hI hV hSd hst0 hst1 hr hr0 hr1 hf0 hf1 hk0 hk hv0 hv1 hv
end Go.Proofs.YbulkaptmDoor
