/-
  What the laws ask of an answer: (f35) binary's Uint32, (f23) AVP.Uint32, (f9) zzs2066cu32, (f22) bytes.Equal, (f7) head; and (f36) Is, (f24) Find.
-/
import Derived.Test.YbulkaptmDoorAddress
import Derived.Laws.BitsAllLaws
import Derived.Laws.BytesArg
namespace Go.Proofs.YbulkaptmDoor
open Go.RowKit
set_option linter.unusedVariables false
set_option maxRecDepth 100000

theorem or_mul (a b i m : Nat) (hm : m = 2 ^ i) (h : a < m) : a ||| (b * m) = b * m + a := by
  subst hm
  rw [Nat.or_comm, ← Nat.shiftLeft_eq, Nat.shiftLeft_add_eq_or_of_lt h]

/-- The four bytes put together again. -/
theorem be32_back (v : Int) (h0 : 0 ≤ v) (h1 : v < 4294967296) :
    bits .or .u32 (bits .or .u32 (bits .or .u32 (v % 256) (v / 256 % 256 * 256)) (v / 65536 % 256 * 65536)) (v / 16777216 * 16777216) = v := by
  obtain ⟨n, rfl⟩ := Int.eq_ofNat_of_zero_le h0
  have e3 : ((n : Int) % 256) = ((n % 256 : Nat) : Int) := by omega
  have e2 : ((n : Int) / 256 % 256 * 256) = ((n / 256 % 256 * 256 : Nat) : Int) := by omega
  have e1 : ((n : Int) / 65536 % 256 * 65536) = ((n / 65536 % 256 * 65536 : Nat) : Int) := by omega
  have e0 : ((n : Int) / 16777216 * 16777216) = ((n / 16777216 * 16777216 : Nat) : Int) := by omega
  rw [e3, e2, e1, e0, u32_or_nat _ _ (by omega) (by omega), or_mul _ _ 8 256 (by decide) (by omega), u32_or_nat _ _ (by omega) (by omega), or_mul _ _ 16 65536 (by decide) (by omega), u32_or_nat _ _ (by omega) (by omega), or_mul _ _ 24 16777216 (by decide) (by omega)]
  omega

theorem gdrewN (w : World) (n : Nat) (row : Option Nat) : w.grownBy (w.drewN n) row := ⟨rfl, rfl, rfl, Nat.le_refl _, fun _ _ _ => rfl⟩

theorem U8s.cells {w : World} {da : Option Addr} {dl : Nat} {bs : List Int} (h : U8s w da dl bs) : ∃ g, da = some ⟨g, 0, none⟩ ∧ g < w.heap.size ∧ ∀ j (hj : j < bs.length), w.cell? ⟨g, j, none⟩ = some (.int .u8 bs[j]) := by
  obtain ⟨h1, g, c, h2, h3, h4⟩ := h
  have hc : ∀ j (hj : j < bs.length), w.cell? ⟨g, j, none⟩ = some (.int .u8 bs[j]) := by
    intro j hj
    rw [cellOf h3]
    have := congrArg (fun l => l[j]?) h4
    simp only [List.getElem?_take_of_lt hj, List.getElem?_map, List.getElem?_eq_getElem hj] at this
    simpa using this
  refine ⟨g, h2, ?_, hc⟩
  rcases Nat.lt_or_ge g w.heap.size with h | h
  · exact h
  · rw [Array.getElem?_eq_none h] at h3; cases h3

set_option maxHeartbeats 1600000 in
/-- (f35) Uint32. -/
theorem beU32 (v : Int) (h0 : 0 ≤ v) (h1 : v < 4294967296) (da : Option Addr) (dc : Nat) (w : World) (hu : U8s w da 4 (be32 v)) :
    Calls Ybad.prog 35 #[.agg #[], .slice da 4 dc] w fun e w' => e = .returned (.int .u32 v) ∧ w.grownBy w' none := by
  obtain ⟨g, rfl, hg, hc⟩ := hu.cells
  have c0 : w.cell? ⟨g, 0, none⟩ = some (.int .u8 (v / 16777216)) := hc 0 (by simp [be32])
  have c1 : w.cell? ⟨g, 1, none⟩ = some (.int .u8 (v / 65536 % 256)) := hc 1 (by simp [be32])
  have c2 : w.cell? ⟨g, 2, none⟩ = some (.int .u8 (v / 256 % 256)) := hc 2 (by simp [be32])
  have c3 : w.cell? ⟨g, 3, none⟩ = some (.int .u8 (v % 256)) := hc 3 (by simp [be32])
  have HV : Hid (bits .or .u32 (bits .or .u32 (bits .or .u32 (v % 256) (v / 256 % 256 * 256)) (v / 65536 % 256 * 65536)) (v / 16777216 * 16777216) = v) := be32_back v h0 h1
  clear hu hc
  go_enter Ybad.func35, Ybad.ntmps35
  go_wp2
  go_quiet (fail)
  go_wp2
  go_ret
  refine ⟨?_, gtrans (World.grownBy_alloc _ _ _) (gdrewN _ _ _)⟩
  have := HV.out
  simp [this]

/-- (f23) AVP.Uint32. -/
theorem avpU32 (code flags vendor v : Int) (h0 : 0 ≤ v) (h1 : v < 4294967296) (da : Option Addr) (dc : Nat) (w : World) (hu : U8s w da 4 (be32 v)) :
    Calls Ybad.prog 23 #[.agg #[.int .u32 code, .int .u8 flags, .int .u32 vendor, .slice da 4 dc]] w fun e w' => e = .returned (.tuple #[.int .u32 v, .nilIface]) ∧ w.grownBy w' none := by
  have HU : Hid (U8s w da 4 (be32 v)) := hu
  clear hu
  go_enter Ybad.func23, Ybad.ntmps23
  go_wp2_with fail
  refine (beU32 v h0 h1 da dc _ (HU.out.grow (World.grownBy_alloc _ _ _))).mono ?_
  rintro e w1 ⟨rfl, hg⟩
  have HG : Hid (w.grownBy w1 none) := gtrans (World.grownBy_alloc _ _ _) hg
  clear hg
  go_wp2
  go_ret2
  exact ⟨rfl, HG.out⟩

/-- (f9) zzs2066cu32. -/
theorem u32_ok (code flags vendor v : Int) (h0 : 0 ≤ v) (h1 : v < 4294967296) (da : Option Addr) (dc : Nat) (w : World) (hu : U8s w da 4 (be32 v)) :
    Calls Ybad.prog 9 #[.agg #[.int .u32 code, .int .u8 flags, .int .u32 vendor, .slice da 4 dc], .int .u32 code, .int .u32 v] w fun e w' => e = .returned (.bool true) ∧ w.grownBy w' none := by
  have HU : Hid (U8s w da 4 (be32 v)) := hu
  clear hu
  go_enter Ybad.func9, Ybad.ntmps9
  go_wp2_with fail
  refine (avpU32 code flags vendor v h0 h1 da dc _ (HU.out.grow (World.grownBy_alloc _ _ _))).mono ?_
  rintro e w1 ⟨rfl, hg⟩
  have HG : Hid (w.grownBy w1 none) := gtrans (World.grownBy_alloc _ _ _) hg
  clear hg
  go_wp2
  go_ret
  exact ⟨rfl, HG.out⟩

/-- (f22) bytes.Equal of two slices that make one string. -/
theorem equal_same (x y : Value) (s : ByteArray) (w : World) (C1 : (convert 23 9 x).run Ybad.prog w = .ok (.string s) w) (C2 : (convert 23 9 y).run Ybad.prog w = .ok (.string s) w) :
    Calls Ybad.prog 22 #[x, y] w fun e w' => e = .returned (.bool true) ∧ w' = w := by
  go_enter Ybad.func22, Ybad.ntmps22
  go_wp2
  go_ret
  exact ⟨rfl, rfl⟩

/-- (f36) Is: no. -/
theorem is_no (name : ByteArray) (mand : Bool) (typ : Int) (w : World) :
    Calls Ybad.prog 36 #[.agg #[.int .u32 1, .int .u8 0, .int .u32 0, .slice none 0 0], .agg #[.string name, .int .u32 263, .int .u32 0, .bool mand, .int .u8 typ]] w fun e w' => e = .returned (.bool false) ∧ w.grownBy w' none := by
  go_enter Ybad.func36, Ybad.ntmps36
  go_wp2
  go_ret
  exact ⟨rfl, gtrans (World.grownBy_alloc _ _ _) (World.grownBy_alloc _ _ _)⟩
/-- (f36) Is: yes. -/
theorem is_yes (name : ByteArray) (mand : Bool) (typ : Int) (da : Option Addr) (dl dc : Nat) (w : World) :
    Calls Ybad.prog 36 #[.agg #[.int .u32 263, .int .u8 0, .int .u32 0, .slice da dl dc], .agg #[.string name, .int .u32 263, .int .u32 0, .bool mand, .int .u8 typ]] w fun e w' => e = .returned (.bool true) ∧ w.grownBy w' none := by
  go_enter Ybad.func36, Ybad.ntmps36
  go_wp2
  go_ret
  exact ⟨rfl, gtrans (World.grownBy_alloc _ _ _) (World.grownBy_alloc _ _ _)⟩
end Go.Proofs.YbulkaptmDoor
