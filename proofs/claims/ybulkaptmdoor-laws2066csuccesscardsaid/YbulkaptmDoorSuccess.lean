/-
  The Success law, whole.
-/
import Derived.Test.YbulkaptmDoorSucF
import Derived.Test.YbulkaptmDoorSucT
namespace Go.Proofs.YbulkaptmDoor
open Go.RowKit
set_option linter.unusedVariables false
set_option linter.unusedSimpArgs false
set_option maxRecDepth 100000

set_option maxHeartbeats 1600000 in
theorem soon_1 (fl cmd app hop ete : Int) (ws : Bool) (sa : Option Addr) (sl sc : Nat) (host realm prod : ByteArray) (st i0 i1 i2 i3 port : Int) (ia : Option Addr) (il ic : Nat) (va : Option Addr) (vl vc : Nat) (w : World) (h1 : ¬ il ≤ 1024) :
    Calls Ybad.prog 3 #[.agg #[.int .u8 fl, .int .u32 cmd, .int .u32 app, .int .u32 hop, .int .u32 ete, .bool ws, .slice sa sl sc, .string host, .string realm, .string prod, .int .u32 st, .int .u8 i0, .int .u8 i1, .int .u8 i2, .int .u8 i3, .int .u16 port, .slice ia il ic, .slice va vl vc]] w fun e w' => e = .returned (.bool true) ∧ w.grownBy w' none := by
  have l1 : (1024 : Int) < (il : Int) := by omega
  have c16 : (w.alloc (.cells #[.int .u8 fl, .int .u32 cmd, .int .u32 app, .int .u32 hop, .int .u32 ete, .bool ws, .slice sa sl sc, .string host, .string realm, .string prod, .int .u32 st, .int .u8 i0, .int .u8 i1, .int .u8 i2, .int .u8 i3, .int .u16 port, .slice ia il ic, .slice va vl vc] 28)).cell? ⟨w.heap.size, 16, none⟩ = some (.slice ia il ic) := cellOf (heap_alloc_new _ _)
  have c17 : (w.alloc (.cells #[.int .u8 fl, .int .u32 cmd, .int .u32 app, .int .u32 hop, .int .u32 ete, .bool ws, .slice sa sl sc, .string host, .string realm, .string prod, .int .u32 st, .int .u8 i0, .int .u8 i1, .int .u8 i2, .int .u8 i3, .int .u16 port, .slice ia il ic, .slice va vl vc] 28)).cell? ⟨w.heap.size, 17, none⟩ = some (.slice va vl vc) := cellOf (heap_alloc_new _ _)
  have c6 : (w.alloc (.cells #[.int .u8 fl, .int .u32 cmd, .int .u32 app, .int .u32 hop, .int .u32 ete, .bool ws, .slice sa sl sc, .string host, .string realm, .string prod, .int .u32 st, .int .u8 i0, .int .u8 i1, .int .u8 i2, .int .u8 i3, .int .u16 port, .slice ia il ic, .slice va vl vc] 28)).cell? ⟨w.heap.size, 6, none⟩ = some (.slice sa sl sc) := cellOf (heap_alloc_new _ _)
  go_enter Ybad.func3, Ybad.ntmps3
  go_wp2
  go_ret
  exact ⟨rfl, World.grownBy_alloc _ _ _⟩

set_option maxHeartbeats 1600000 in
theorem soon_2 (fl cmd app hop ete : Int) (ws : Bool) (sa : Option Addr) (sl sc : Nat) (host realm prod : ByteArray) (st i0 i1 i2 i3 port : Int) (ia : Option Addr) (il ic : Nat) (va : Option Addr) (vl vc : Nat) (w : World) (h1 : il ≤ 1024) (h2 : ¬ vl ≤ 1024) :
    Calls Ybad.prog 3 #[.agg #[.int .u8 fl, .int .u32 cmd, .int .u32 app, .int .u32 hop, .int .u32 ete, .bool ws, .slice sa sl sc, .string host, .string realm, .string prod, .int .u32 st, .int .u8 i0, .int .u8 i1, .int .u8 i2, .int .u8 i3, .int .u16 port, .slice ia il ic, .slice va vl vc]] w fun e w' => e = .returned (.bool true) ∧ w.grownBy w' none := by
  have l1 : ¬ (1024 : Int) < (il : Int) := by omega
  have l2 : (1024 : Int) < (vl : Int) := by omega
  have c16 : (w.alloc (.cells #[.int .u8 fl, .int .u32 cmd, .int .u32 app, .int .u32 hop, .int .u32 ete, .bool ws, .slice sa sl sc, .string host, .string realm, .string prod, .int .u32 st, .int .u8 i0, .int .u8 i1, .int .u8 i2, .int .u8 i3, .int .u16 port, .slice ia il ic, .slice va vl vc] 28)).cell? ⟨w.heap.size, 16, none⟩ = some (.slice ia il ic) := cellOf (heap_alloc_new _ _)
  have c17 : (w.alloc (.cells #[.int .u8 fl, .int .u32 cmd, .int .u32 app, .int .u32 hop, .int .u32 ete, .bool ws, .slice sa sl sc, .string host, .string realm, .string prod, .int .u32 st, .int .u8 i0, .int .u8 i1, .int .u8 i2, .int .u8 i3, .int .u16 port, .slice ia il ic, .slice va vl vc] 28)).cell? ⟨w.heap.size, 17, none⟩ = some (.slice va vl vc) := cellOf (heap_alloc_new _ _)
  have c6 : (w.alloc (.cells #[.int .u8 fl, .int .u32 cmd, .int .u32 app, .int .u32 hop, .int .u32 ete, .bool ws, .slice sa sl sc, .string host, .string realm, .string prod, .int .u32 st, .int .u8 i0, .int .u8 i1, .int .u8 i2, .int .u8 i3, .int .u16 port, .slice ia il ic, .slice va vl vc] 28)).cell? ⟨w.heap.size, 6, none⟩ = some (.slice sa sl sc) := cellOf (heap_alloc_new _ _)
  go_enter Ybad.func3, Ybad.ntmps3
  go_wp2
  go_ret
  exact ⟨rfl, World.grownBy_alloc _ _ _⟩

set_option maxHeartbeats 1600000 in
theorem soon_3 (fl cmd app hop ete : Int) (ws : Bool) (sa : Option Addr) (sl sc : Nat) (host realm prod : ByteArray) (st i0 i1 i2 i3 port : Int) (ia : Option Addr) (il ic : Nat) (va : Option Addr) (vl vc : Nat) (w : World) (h1 : il ≤ 1024) (h2 : vl ≤ 1024) (h3 : ¬ sl ≤ 1024) :
    Calls Ybad.prog 3 #[.agg #[.int .u8 fl, .int .u32 cmd, .int .u32 app, .int .u32 hop, .int .u32 ete, .bool ws, .slice sa sl sc, .string host, .string realm, .string prod, .int .u32 st, .int .u8 i0, .int .u8 i1, .int .u8 i2, .int .u8 i3, .int .u16 port, .slice ia il ic, .slice va vl vc]] w fun e w' => e = .returned (.bool true) ∧ w.grownBy w' none := by
  have l1 : ¬ (1024 : Int) < (il : Int) := by omega
  have l2 : ¬ (1024 : Int) < (vl : Int) := by omega
  have l3 : (1024 : Int) < (sl : Int) := by omega
  have c16 : (w.alloc (.cells #[.int .u8 fl, .int .u32 cmd, .int .u32 app, .int .u32 hop, .int .u32 ete, .bool ws, .slice sa sl sc, .string host, .string realm, .string prod, .int .u32 st, .int .u8 i0, .int .u8 i1, .int .u8 i2, .int .u8 i3, .int .u16 port, .slice ia il ic, .slice va vl vc] 28)).cell? ⟨w.heap.size, 16, none⟩ = some (.slice ia il ic) := cellOf (heap_alloc_new _ _)
  have c17 : (w.alloc (.cells #[.int .u8 fl, .int .u32 cmd, .int .u32 app, .int .u32 hop, .int .u32 ete, .bool ws, .slice sa sl sc, .string host, .string realm, .string prod, .int .u32 st, .int .u8 i0, .int .u8 i1, .int .u8 i2, .int .u8 i3, .int .u16 port, .slice ia il ic, .slice va vl vc] 28)).cell? ⟨w.heap.size, 17, none⟩ = some (.slice va vl vc) := cellOf (heap_alloc_new _ _)
  have c6 : (w.alloc (.cells #[.int .u8 fl, .int .u32 cmd, .int .u32 app, .int .u32 hop, .int .u32 ete, .bool ws, .slice sa sl sc, .string host, .string realm, .string prod, .int .u32 st, .int .u8 i0, .int .u8 i1, .int .u8 i2, .int .u8 i3, .int .u16 port, .slice ia il ic, .slice va vl vc] 28)).cell? ⟨w.heap.size, 6, none⟩ = some (.slice sa sl sc) := cellOf (heap_alloc_new _ _)
  go_enter Ybad.func3, Ybad.ntmps3
  go_wp2
  go_ret
  exact ⟨rfl, World.grownBy_alloc _ _ _⟩

theorem success_any (fl cmd app hop ete : Int) (ws : Bool) (sa : Option Addr) (sl sc : Nat) (host realm prod : ByteArray) (st i0 i1 i2 i3 port : Int) (ia : Option Addr) (il ic : Nat) (va : Option Addr) (vl vc : Nat) (ids vends sid : List Int) (nm : Nat → ByteArray) (z : Addr) (w : World) (hG : Globs w nm z)
    (hI : IsRow .u32 w ia il ic ids) (hV : IsRow .u32 w va vl vc vends) (hSd : IsRow .u8 w sa sl sc sid) (hst0 : 0 ≤ st) (hst1 : st < 4294967296)
    (hr : (0 ≤ i0 ∧ i0 ≤ 255) ∧ (0 ≤ i1 ∧ i1 ≤ 255) ∧ (0 ≤ i2 ∧ i2 ≤ 255) ∧ (0 ≤ i3 ∧ i3 ≤ 255)) :
    Calls Ybad.prog 3 #[.agg #[.int .u8 fl, .int .u32 cmd, .int .u32 app, .int .u32 hop, .int .u32 ete, .bool ws, .slice sa sl sc, .string host, .string realm, .string prod, .int .u32 st, .int .u8 i0, .int .u8 i1, .int .u8 i2, .int .u8 i3, .int .u16 port, .slice ia il ic, .slice va vl vc]] w fun e w' => e = .returned (.bool true) ∧ w.grownBy w' none := by
  by_cases h1 : il ≤ 1024
  case neg => exact soon_1 fl cmd app hop ete ws sa sl sc host realm prod st i0 i1 i2 i3 port ia il ic va vl vc w h1
  by_cases h2 : vl ≤ 1024
  case neg => exact soon_2 fl cmd app hop ete ws sa sl sc host realm prod st i0 i1 i2 i3 port ia il ic va vl vc w h1 h2
  by_cases h3 : sl ≤ 1024
  case neg => exact soon_3 fl cmd app hop ete ws sa sl sc host realm prod st i0 i1 i2 i3 port ia il ic va vl vc w h1 h2 h3
  cases ws with
  | false => exact suc_F fl cmd app hop ete sa sl sc host realm prod st i0 i1 i2 i3 port ia il ic va vl vc ids vends sid nm z w hG h1 h2 h3 hI hV hSd hst0 hst1 hr
  | true => exact suc_T fl cmd app hop ete sa sl sc host realm prod st i0 i1 i2 i3 port ia il ic va vl vc ids vends sid nm z w hG h1 h2 h3 hI hV hSd hst0 hst1 hr
end Go.Proofs.YbulkaptmDoor
