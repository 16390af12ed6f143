/-
  (f40) BEPutUint32, (f31) AsSlice, (f30) AppendUint16, (f18) Attr.Address.
-/
import Derived.Test.YbulkaptmDoorNet
import Derived.Test.YbulkaptmDoorGroup
import Derived.Deep.RegionHeld3
import Derived.Deep.AppendLies
namespace Go.Proofs.YbulkaptmDoor
open Go.RowKit
set_option linter.unusedVariables false
set_option maxRecDepth 100000

/-- Four bytes of a block that may be written. -/
structure Four (w : World) (g : Nat) : Prop where
  c0 : ∃ a, w.cell? ⟨g, 0, none⟩ = some (.int .u8 a)
  c1 : ∃ a, w.cell? ⟨g, 1, none⟩ = some (.int .u8 a)
  c2 : ∃ a, w.cell? ⟨g, 2, none⟩ = some (.int .u8 a)
  c3 : ∃ a, w.cell? ⟨g, 3, none⟩ = some (.int .u8 a)
  f0 : w.frozen? ⟨g, 0, none⟩ = false
  f1 : w.frozen? ⟨g, 1, none⟩ = false
  f2 : w.frozen? ⟨g, 2, none⟩ = false
  f3 : w.frozen? ⟨g, 3, none⟩ = false

theorem gdrew (w : World) (row : Option Nat) : w.grownBy w.drew row := ⟨rfl, rfl, rfl, Nat.le_refl _, fun _ _ _ => rfl⟩
theorem Four.drew {w : World} {g : Nat} (h : Four w g) : Four w.drew g := ⟨h.c0, h.c1, h.c2, h.c3, h.f0, h.f1, h.f2, h.f3⟩
theorem gcellR {w w' : World} {row : Option Nat} {a : Addr} {v : Value} (hg : w.grownBy w' row) (h : w.cell? a = some v) (hne : some a.block ≠ row) : w'.cell? a = some v := by
  rw [World.cell?_of_block (hg.block _ (World.block_lt_of_cell? _ _ h) hne), h]

/-- What a later step wrote into a block that the call made counts for nothing. -/
theorem gfresh {w w1 w2 : World} {k : Nat} (h : w.grownBy w1 none) (h2 : w1.grownBy w2 (some k)) (hk : w.heap.size ≤ k) : w.grownBy w2 none :=
  ⟨h2.os.trans h.os, h2.tape.trans h.tape, h2.output.trans h.output, Nat.le_trans h.size h2.size, fun i hi _ => (h2.block i (Nat.lt_of_lt_of_le hi h.size) (by intro e; cases e; omega)).trans (h.block i hi (by simp))⟩

theorem bePut_any (v : Int) (h0 : 0 ≤ v) (h1 : v < 4294967296) (g : Nat) (w : World) (h : Four w g) :
    Calls Ybad.prog 40 #[.slice (some ⟨g, 0, none⟩) 4 4, .int .u32 v] w fun e w' => (∃ u, e = .returned u) ∧ w.grownBy w' (some g) ∧ Four w' g := by
  obtain ⟨⟨a, c0⟩, ⟨b, c1⟩, ⟨c, c2⟩, ⟨d, c3⟩, f0, f1, f2, f3⟩ := h
  go_enter Ybad.func40, Ybad.ntmps40
  go_wp2
  go_end0
  refine ⟨⟨_, rfl⟩, gtrans (gtrans (gtrans (gset w _ _) (gset _ _ _)) (gset _ _ _)) (gset _ _ _), ?_⟩
  constructor <;> simp [go_sem, *]

theorem asSlice_any (hi lo : Int) (z : Addr) (w : World) (hz : Zs w z) (hl0 : 0 ≤ lo) (hl1 : lo < 18446744073709551616) :
    Calls Ybad.prog 31 #[.agg #[.int .u64 hi, .int .u64 lo, .pointer (some z)]] w fun e w' => (∃ g, e = .returned (.slice (some ⟨g, 0, none⟩) 4 4) ∧ Four w' g) ∧ w.grownBy w' none := by
  have E1 := eq91 z
  have E2 := ne91 z
  obtain ⟨h4, h0⟩ := hz.lt
  have hz4 := hz.z4
  have hz0 := hz.z0
  have HL : Hid (0 ≤ lo % 4294967296 ∧ lo % 4294967296 < 4294967296) := by show _ ∧ _; omega
  clear hz
  go_enter Ybad.func31, Ybad.ntmps31
  go_wp2
  obtain ⟨W, hW⟩ : ∃ W, W = ((w.alloc (.cells #[.int .u64 hi, .int .u64 lo, .pointer (some z)] 95)).alloc (.cells #[.int .u8 0, .int .u8 0, .int .u8 0, .int .u8 0] 24)) := ⟨_, rfl⟩
  rw [← hW]
  have k1 : W.cell? ⟨w.heap.size, 1, none⟩ = some (.int .u64 lo) := by rw [hW]; simp
  have HF : Hid (Four W (w.heap.size + 1)) := by show Four W (w.heap.size + 1); rw [hW]; constructor <;> simp
  have HG : Hid (w.grownBy W none) := by show w.grownBy W none; rw [hW]; exact gtrans (World.grownBy_alloc _ _ _) (World.grownBy_alloc _ _ _)
  clear hW
  go_region_held3 (fun w' => w'.cell? ⟨w.heap.size, 1, none⟩ = some (.int .u64 lo)) (first | assumption | go_keep)
    (first
      | (go_at_call 40; refine (bePut_any _ HL.out.1 HL.out.2 (w.heap.size + 1) _ HF.out.drew).mono ?_; rintro e w1 ⟨⟨u, rfl⟩, hg, hf⟩; have k2 : w1.cell? ⟨w.heap.size, 1, none⟩ = some (.int .u64 lo) := gcellR hg (by simpa using k1) (by simp)))
  have HF1 : Hid (Four w1 (w.heap.size + 1)) := hf
  have HG1 : Hid (w.grownBy w1 none) := gfresh HG.out (gtrans (gdrew _ _) hg) (by omega)
  clear hf hg HF HG
  go_wp2
  go_ret
  exact ⟨⟨_, rfl, HF1.out⟩, HG1.out⟩
end Go.Proofs.YbulkaptmDoor
