/-
  (f24) Find the Session-Id: among one AVP that is none; among two, the second being one.
-/
import Derived.Test.YbulkaptmDoorCheck
namespace Go.Proofs.YbulkaptmDoor
open Go.RowKit
set_option linter.unusedVariables false
set_option maxRecDepth 100000

set_option maxHeartbeats 1600000 in
theorem find_one (b cap : Nat) (name : ByteArray) (mand : Bool) (typ : Int) (w : World) (c0 : w.cell? ⟨b, 0, none⟩ = some (.int .u32 1)) (c1 : w.cell? ⟨b, 1, none⟩ = some (.int .u8 0)) (c2 : w.cell? ⟨b, 2, none⟩ = some (.int .u32 0)) (c3 : w.cell? ⟨b, 3, none⟩ = some (.slice none 0 0)) :
    Calls Ybad.prog 24 #[.slice (some ⟨b, 0, none⟩) 1 cap, .agg #[.string name, .int .u32 263, .int .u32 0, .bool mand, .int .u8 typ]] w fun e w' =>
      e = .returned (.tuple #[.agg #[.int .u32 0, .int .u8 0, .int .u32 0, .slice none 0 0], .bool false]) ∧ w.grownBy w' none := by
  have hb : b < w.heap.size := World.block_lt_of_cell? _ _ c0
  go_enter Ybad.func24, Ybad.ntmps24
  go_wp2_with fail
  refine wp_loop_rounds 2 ?_
  rw [rounds_succ]
  go_wp2_with fail
  refine (is_no name mand typ _).mono ?_
  rintro e w1 ⟨rfl, hg⟩
  have L1 : Hid (w1.heap[w.heap.size + 1]? = some (.cells #[.int .u32 0, .int .u8 0, .int .u32 0, .slice none 0 0] 41 (0, 0))) := by
    refine gblockN hg ?_
    rw [Below.heap_alloc _ _ _ (by simp)]
    have := heap_alloc_new (w.alloc (.cells #[.string name, .int .u32 263, .int .u32 0, .bool mand, .int .u8 typ] 122)) (.cells #[.int .u32 0, .int .u8 0, .int .u32 0, .slice none 0 0] 41)
    simpa using this
  have HG : Hid (w.grownBy w1 none) := gtrans (gtrans (gtrans (World.grownBy_alloc _ _ _) (World.grownBy_alloc _ _ _)) (World.grownBy_alloc _ _ _)) hg
  have f0 : w1.cell? ⟨w.heap.size + 1, 0, none⟩ = some (.int .u32 0) := cellOf L1.out
  have f1 : w1.cell? ⟨w.heap.size + 1, 1, none⟩ = some (.int .u8 0) := cellOf L1.out
  have f2 : w1.cell? ⟨w.heap.size + 1, 2, none⟩ = some (.int .u32 0) := cellOf L1.out
  have f3 : w1.cell? ⟨w.heap.size + 1, 3, none⟩ = some (.slice none 0 0) := cellOf L1.out
  have z0 : w1.frozen? ⟨w.heap.size + 1, 0, none⟩ = false := frozenOf L1.out
  have z1 : w1.frozen? ⟨w.heap.size + 1, 1, none⟩ = false := frozenOf L1.out
  have z2 : w1.frozen? ⟨w.heap.size + 1, 2, none⟩ = false := frozenOf L1.out
  have z3 : w1.frozen? ⟨w.heap.size + 1, 3, none⟩ = false := frozenOf L1.out
  clear hg
  go_wp2_with fail
  rw [rounds_succ]
  go_wp2_with fail
  refine bodyPost_ret (v := .tuple #[.agg #[.int .u32 0, .int .u8 0, .int .u32 0, .slice none 0 0], .bool false]) (by simp [results, Ybad.results24, go_sem, f0, f1, f2, f3]) rfl ⟨rfl, ?_⟩
  exact gfresh HG.out (g4 _ _ _ _ _ _) (by omega)

set_option maxHeartbeats 3200000 in
theorem find_two (b cap : Nat) (name : ByteArray) (mand : Bool) (typ : Int) (da : Option Addr) (dl dc : Nat) (w : World) (c0 : w.cell? ⟨b, 0, none⟩ = some (.int .u32 1)) (c1 : w.cell? ⟨b, 1, none⟩ = some (.int .u8 0)) (c2 : w.cell? ⟨b, 2, none⟩ = some (.int .u32 0)) (c3 : w.cell? ⟨b, 3, none⟩ = some (.slice none 0 0))
    (c4 : w.cell? ⟨b, 4, none⟩ = some (.int .u32 263)) (c5 : w.cell? ⟨b, 5, none⟩ = some (.int .u8 0)) (c6 : w.cell? ⟨b, 6, none⟩ = some (.int .u32 0)) (c7 : w.cell? ⟨b, 7, none⟩ = some (.slice da dl dc)) :
    Calls Ybad.prog 24 #[.slice (some ⟨b, 0, none⟩) 2 cap, .agg #[.string name, .int .u32 263, .int .u32 0, .bool mand, .int .u8 typ]] w fun e w' =>
      e = .returned (.tuple #[.agg #[.int .u32 263, .int .u8 0, .int .u32 0, .slice da dl dc], .bool true]) ∧ w.grownBy w' none := by
  have hb : b < w.heap.size := World.block_lt_of_cell? _ _ c0
  go_enter Ybad.func24, Ybad.ntmps24
  go_wp2_with fail
  refine wp_loop_rounds 2 ?_
  rw [rounds_succ]
  go_wp2_with fail
  refine (is_no name mand typ _).mono ?_
  rintro e w1 ⟨rfl, hg⟩
  have HG : Hid (w.grownBy w1 none) := gtrans (gtrans (gtrans (World.grownBy_alloc _ _ _) (World.grownBy_alloc _ _ _)) (World.grownBy_alloc _ _ _)) hg
  have L1 : Hid (w1.heap[w.heap.size + 1]? = some (.cells #[.int .u32 0, .int .u8 0, .int .u32 0, .slice none 0 0] 41 (0, 0))) := by
    refine gblockN hg ?_
    rw [Below.heap_alloc _ _ _ (by simp)]
    have := heap_alloc_new (w.alloc (.cells #[.string name, .int .u32 263, .int .u32 0, .bool mand, .int .u8 typ] 122)) (.cells #[.int .u32 0, .int .u8 0, .int .u32 0, .slice none 0 0] 41)
    simpa using this
  have K1 : Hid (AttrAt w1 w.heap.size name 263 0 mand typ) := by
    refine gblockN hg ?_
    rw [Below.heap_alloc _ _ _ (by simp; omega), Below.heap_alloc _ _ _ (by simp)]
    exact heap_alloc_new _ _
  have k0 : w1.cell? ⟨w.heap.size, 0, none⟩ = some (.string name) := cellOf K1.out
  have k1 : w1.cell? ⟨w.heap.size, 1, none⟩ = some (.int .u32 263) := cellOf K1.out
  have k2 : w1.cell? ⟨w.heap.size, 2, none⟩ = some (.int .u32 0) := cellOf K1.out
  have k3 : w1.cell? ⟨w.heap.size, 3, none⟩ = some (.bool mand) := cellOf K1.out
  have k4 : w1.cell? ⟨w.heap.size, 4, none⟩ = some (.int .u8 typ) := cellOf K1.out
  have d4 := gcell HG.out c4
  have d5 := gcell HG.out c5
  have d6 := gcell HG.out c6
  have d7 := gcell HG.out c7
  have hs1 : w.heap.size + 1 < w1.heap.size := by
    rcases Nat.lt_or_ge (w.heap.size + 1) w1.heap.size with h | h
    · exact h
    · rw [Array.getElem?_eq_none h] at L1; have := L1.out; cases this
  have hs0 : w.heap.size < w1.heap.size := by omega
  have hb1 : b < w1.heap.size := by omega
  clear hg c0 c1 c2 c3 c4 c5 c6 c7
  go_wp2_with fail
  rw [rounds_succ]
  go_wp2_with fail
  refine (is_yes name mand typ da dl dc _).mono ?_
  rintro e w2 ⟨rfl, hg2⟩
  have HG2 : Hid (w.grownBy w2 none) := gtrans (gtrans HG.out (World.grownBy_alloc _ _ _)) hg2
  have L2 : Hid (w2.heap[w.heap.size + 1]? = _) := gblockN hg2 (gblockN (World.grownBy_alloc _ _ _) L1.out)
  have M2 : Hid (w2.heap[w1.heap.size]? = some (.cells #[.int .u32 263, .int .u8 0, .int .u32 0, .slice da dl dc] 41 (0, 0))) := gblockN hg2 (heap_alloc_new _ _)
  have f0 : w2.cell? ⟨w.heap.size + 1, 0, none⟩ = some (.int .u32 0) := cellOf L2.out
  have f1 : w2.cell? ⟨w.heap.size + 1, 1, none⟩ = some (.int .u8 0) := cellOf L2.out
  have f2 : w2.cell? ⟨w.heap.size + 1, 2, none⟩ = some (.int .u32 0) := cellOf L2.out
  have f3 : w2.cell? ⟨w.heap.size + 1, 3, none⟩ = some (.slice none 0 0) := cellOf L2.out
  have z0 : w2.frozen? ⟨w.heap.size + 1, 0, none⟩ = false := frozenOf L2.out
  have z1 : w2.frozen? ⟨w.heap.size + 1, 1, none⟩ = false := frozenOf L2.out
  have z2 : w2.frozen? ⟨w.heap.size + 1, 2, none⟩ = false := frozenOf L2.out
  have z3 : w2.frozen? ⟨w.heap.size + 1, 3, none⟩ = false := frozenOf L2.out
  have m0 : w2.cell? ⟨w1.heap.size, 0, none⟩ = some (.int .u32 263) := cellOf M2.out
  have m1 : w2.cell? ⟨w1.heap.size, 1, none⟩ = some (.int .u8 0) := cellOf M2.out
  have m2 : w2.cell? ⟨w1.heap.size, 2, none⟩ = some (.int .u32 0) := cellOf M2.out
  have m3 : w2.cell? ⟨w1.heap.size, 3, none⟩ = some (.slice da dl dc) := cellOf M2.out
  clear hg2 k0 k1 k2 k3 k4 d4 d5 d6 d7
  go_wp2_with fail
  refine bodyPost_ret (v := .tuple #[.agg #[.int .u32 263, .int .u8 0, .int .u32 0, .slice da dl dc], .bool true]) (by simp [results, Ybad.results24, go_sem, f0, f1, f2, f3]) rfl ⟨rfl, ?_⟩
  exact gfresh HG2.out (g4 _ _ _ _ _ _) (by omega)
end Go.Proofs.YbulkaptmDoor
