/-
  (f11) n, (f7) head.
-/
import Derived.Test.YbulkaptmDoorCea
namespace Go.Proofs.YbulkaptmDoor
open Go.RowKit
set_option linter.unusedVariables false
set_option linter.unusedSimpArgs false
set_option maxRecDepth 100000

set_option maxHeartbeats 1600000 in
/-- (f11) zzs2066cn. -/
theorem n_any (fl cmd app hop ete : Int) (ws : Bool) (sa : Option Addr) (sl sc : Nat) (host realm prod : ByteArray) (st i0 i1 i2 i3 port : Int) (ia : Option Addr) (il ic : Nat) (va : Option Addr) (vl vc : Nat) (w : World) (hil : (il : Int) < 4611686018427387904) (hvl : (vl : Int) < 4611686018427387904) :
    Calls Ybad.prog 11 #[.agg #[.int .u8 fl, .int .u32 cmd, .int .u32 app, .int .u32 hop, .int .u32 ete, .bool ws, .slice sa sl sc, .string host, .string realm, .string prod, .int .u32 st, .int .u8 i0, .int .u8 i1, .int .u8 i2, .int .u8 i3, .int .u16 port, .slice ia il ic, .slice va vl vc]] w fun e w' => e = .returned (.int .i64 ((if vl < il then vl else il : Nat) : Int)) ∧ w.grownBy w' none := by
  by_cases h : vl < il
  · have h' : (vl : Int) < (il : Int) := by omega
    rw [if_pos h]
    clear h
    go_enter Ybad.func11, Ybad.ntmps11
    go_wp2
    go_ret
    exact ⟨rfl, World.grownBy_alloc _ _ _⟩
  · have h' : ¬ (vl : Int) < (il : Int) := by omega
    rw [if_neg h]
    clear h
    go_enter Ybad.func11, Ybad.ntmps11
    go_wp2
    go_ret
    exact ⟨rfl, World.grownBy_alloc _ _ _⟩

set_option maxHeartbeats 3200000 in
/-- (f7) zzs2066chead. -/
theorem head_any (fl cmd app hop ete : Int) (ws : Bool) (sa : Option Addr) (sl sc : Nat) (host realm prod : ByteArray) (st i0 i1 i2 i3 port : Int) (ia : Option Addr) (il ic : Nat) (va : Option Addr) (vl vc : Nat) (p : Nat) (fl' : Int) (sv : Value) (w : World) (hb : w.heap[p]? = some (.cells #[.int .u8 fl', .int .u32 cmd, .int .u32 app, .int .u32 hop, .int .u32 ete, sv] 37 (0, 0))) :
    Calls Ybad.prog 7 #[.agg #[.int .u8 fl, .int .u32 cmd, .int .u32 app, .int .u32 hop, .int .u32 ete, .bool ws, .slice sa sl sc, .string host, .string realm, .string prod, .int .u32 st, .int .u8 i0, .int .u8 i1, .int .u8 i2, .int .u8 i3, .int .u16 port, .slice ia il ic, .slice va vl vc], .pointer (some ⟨p, 0, none⟩)] w fun e w' => e = .returned (.bool true) ∧ w.grownBy w' none := by
  have HP : Hid (w.heap[p]? = some (.cells #[.int .u8 fl', .int .u32 cmd, .int .u32 app, .int .u32 hop, .int .u32 ete, sv] 37 (0, 0))) := hb
  clear hb
  go_enter Ybad.func7, Ybad.ntmps7
  go_wp2_with fail
  obtain ⟨W, hW⟩ : ∃ W, W = w.alloc (.cells #[.int .u8 fl, .int .u32 cmd, .int .u32 app, .int .u32 hop, .int .u32 ete, .bool ws, .slice sa sl sc, .string host, .string realm, .string prod, .int .u32 st, .int .u8 i0, .int .u8 i1, .int .u8 i2, .int .u8 i3, .int .u16 port, .slice ia il ic, .slice va vl vc] 28) := ⟨_, rfl⟩
  rw [← hW]
  have G0 : Hid (w.grownBy W none) := by show w.grownBy W none; rw [hW]; exact World.grownBy_alloc _ _ _
  have K0 : Hid (W.heap[w.heap.size]? = some (.cells #[.int .u8 fl, .int .u32 cmd, .int .u32 app, .int .u32 hop, .int .u32 ete, .bool ws, .slice sa sl sc, .string host, .string realm, .string prod, .int .u32 st, .int .u8 i0, .int .u8 i1, .int .u8 i2, .int .u8 i3, .int .u16 port, .slice ia il ic, .slice va vl vc] 28 (0, 0))) := by show W.heap[w.heap.size]? = _; rw [hW]; exact heap_alloc_new _ _
  have P0 : Hid (W.heap[p]? = _) := gblockN G0.out HP.out
  clear hW
  have S_0 : W.cell? ⟨p, 1, none⟩ = some (.int .u32 cmd) ∧ W.cell? ⟨p, 2, none⟩ = some (.int .u32 app) ∧ W.cell? ⟨p, 3, none⟩ = some (.int .u32 hop) ∧ W.cell? ⟨p, 4, none⟩ = some (.int .u32 ete) ∧ W.cell? ⟨w.heap.size, 1, none⟩ = some (.int .u32 cmd) ∧ W.cell? ⟨w.heap.size, 2, none⟩ = some (.int .u32 app) ∧ W.cell? ⟨w.heap.size, 3, none⟩ = some (.int .u32 hop) ∧ W.cell? ⟨w.heap.size, 4, none⟩ = some (.int .u32 ete) := ⟨cellOf P0.out, cellOf P0.out, cellOf P0.out, cellOf P0.out, cellOf K0.out, cellOf K0.out, cellOf K0.out, cellOf K0.out⟩
  go_region_held3 (fun w' => w'.cell? ⟨p, 1, none⟩ = some (.int .u32 cmd) ∧ w'.cell? ⟨p, 2, none⟩ = some (.int .u32 app) ∧ w'.cell? ⟨p, 3, none⟩ = some (.int .u32 hop) ∧ w'.cell? ⟨p, 4, none⟩ = some (.int .u32 ete) ∧ w'.cell? ⟨w.heap.size, 1, none⟩ = some (.int .u32 cmd) ∧ w'.cell? ⟨w.heap.size, 2, none⟩ = some (.int .u32 app) ∧ w'.cell? ⟨w.heap.size, 3, none⟩ = some (.int .u32 hop) ∧ w'.cell? ⟨w.heap.size, 4, none⟩ = some (.int .u32 ete)) (first | with_reducible assumption | go_keep) (fail)
  go_wp2
  go_ret
  exact ⟨rfl, gtrans G0.out (gdrew _ _)⟩
end Go.Proofs.YbulkaptmDoor
