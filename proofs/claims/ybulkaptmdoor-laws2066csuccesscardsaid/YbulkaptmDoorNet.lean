/-
  net/netip on an IPv4 address, and what of it Attr.Address comes by.
-/
import Derived.Test.YbulkaptmDoorBase
import Derived.Deep.RegionHeld3
import Derived.LaidEqlPtr
namespace Go.Proofs.YbulkaptmDoor
open Go.RowKit
set_option linter.unusedVariables false
set_option maxRecDepth 100000

/-- netip.z4 holds a pointer, netip.z0 nil. -/
structure Zs (w : World) (z : Addr) : Prop where
  z4 : w.cell? ⟨5, 0, none⟩ = some (.pointer (some z))
  z0 : w.cell? ⟨16, 0, none⟩ = some (.pointer none)
theorem Zs.lt {w : World} {z : Addr} (h : Zs w z) : 5 < w.heap.size ∧ 16 < w.heap.size := ⟨World.block_lt_of_cell? _ _ h.z4, World.block_lt_of_cell? _ _ h.z0⟩
theorem gcell {w w' : World} {a : Addr} {v : Value} (hg : w.grownBy w' none) (h : w.cell? a = some v) : w'.cell? a = some v := by
  rw [World.cell?_of_block (hg.block _ (World.block_lt_of_cell? _ _ h) (by simp)), h]
theorem Zs.grow {w w' : World} {z : Addr} (h : Zs w z) (hg : w.grownBy w' none) : Zs w' z := ⟨gcell hg h.z4, gcell hg h.z0⟩

theorem eqIn_same {P : Program} {tp te : TypeId} {j : TypeInfo} (w : World) (a : Addr) (hp : P.underlying tp = some (.pointer te)) (hte : P.info? te = some j) (d : Nat) :
    (Op.equalIn (d + 1) tp (.pointer (some a)) (.pointer (some a))).run P w = .ok true w := by
  simp [Op.equalIn, run_underlying hp, sizeOf, typeInfo, hte, run_sameAddr_same]
theorem eqIn_nil {P : Program} {tp te : TypeId} (w : World) (a : Addr) (hp : P.underlying tp = some (.pointer te)) (d : Nat) :
    (Op.equalIn (d + 1) tp (.pointer (some a)) (.pointer none)).run P w = .ok false w := by
  simp [Op.equalIn, run_underlying hp, sizeOf, typeInfo]
theorem eq91 (z : Addr) (w : World) : (Op.equalIn 9999 91 (.pointer (some z)) (.pointer (some z))).run Ybad.prog w = .ok true w := by
  obtain ⟨j, hj⟩ : ∃ j, Ybad.prog.info? 203 = some j := Option.isSome_iff_exists.1 (by kernel_rfl)
  exact eqIn_same w z Ybad.underlying91 hj 9998
theorem ne91 (z : Addr) (w : World) : (Op.equalIn 9999 91 (.pointer (some z)) (.pointer none)).run Ybad.prog w = .ok false w := by
  exact eqIn_nil w z Ybad.underlying91 9998

/-- (f29) Is4. -/
theorem is4_any (hi lo : Int) (z : Addr) (w : World) (hz : Zs w z) :
    Calls Ybad.prog 29 #[.agg #[.int .u64 hi, .int .u64 lo, .pointer (some z)]] w fun e w' => e = .returned (.bool true) ∧ w.grownBy w' none := by
  obtain ⟨h4, h0⟩ := hz.lt
  have hz4 := hz.z4
  have E1 := eq91 z
  clear hz
  go_enter Ybad.func29, Ybad.ntmps29
  go_wp2
  go_ret
  exact ⟨rfl, World.grownBy_alloc _ _ _⟩

/-- (f46) Is6. -/
theorem is6_any (hi lo : Int) (z : Addr) (w : World) (hz : Zs w z) :
    Calls Ybad.prog 46 #[.agg #[.int .u64 hi, .int .u64 lo, .pointer (some z)]] w fun e w' => e = .returned (.bool false) ∧ w.grownBy w' none := by
  obtain ⟨h4, h0⟩ := hz.lt
  have hz4 := hz.z4
  have hz0 := hz.z0
  have E1 := eq91 z
  have E2 := ne91 z
  clear hz
  go_enter Ybad.func46, Ybad.ntmps46
  go_wp2
  go_ret
  exact ⟨rfl, World.grownBy_alloc _ _ _⟩

/-- (f39) Is4In6. -/
theorem is4in6_any (hi lo : Int) (z : Addr) (w : World) (hz : Zs w z) :
    Calls Ybad.prog 39 #[.agg #[.int .u64 hi, .int .u64 lo, .pointer (some z)]] w fun e w' => e = .returned (.bool false) ∧ w.grownBy w' none := by
  go_enter Ybad.func39, Ybad.ntmps39
  go_wp2_with fail
  refine (is6_any hi lo z _ (hz.grow (World.grownBy_alloc _ _ _))).mono ?_
  rintro e w1 ⟨rfl, hg⟩
  go_wp2
  go_ret
  exact ⟨rfl, gtrans (World.grownBy_alloc _ _ _) hg⟩

theorem gblockN {w w' : World} {k : Nat} {o : Obj} (hg : w.grownBy w' none) (hk : w.heap[k]? = some o) : w'.heap[k]? = some o := gblock hg hk (by simp)
theorem gset2 {w w' : World} {a : Addr} {u : Value} (hg : w.grownBy w' none) (h : w.heap.size ≤ a.block) : w.grownBy (w'.setCell a u) none :=
  ⟨hg.os, hg.tape, hg.output, by simpa using hg.size, fun k hk hne => by rw [Below.heap_setCell w' a u k (by omega)]; exact hg.block k hk hne⟩
theorem frozenOf {w : World} {k j : Nat} {c : Array Value} {t : TypeId} (hk : w.heap[k]? = some (.cells c t (0, 0))) : w.frozen? ⟨k, j, none⟩ = false := by
  simp [World.frozen?, hk]

/-- (f28) Unmap. -/
theorem unmap_any (hi lo : Int) (z : Addr) (w : World) (hz : Zs w z) :
    Calls Ybad.prog 28 #[.agg #[.int .u64 hi, .int .u64 lo, .pointer (some z)]] w fun e w' => e = .returned (.agg #[.int .u64 hi, .int .u64 lo, .pointer (some z)]) ∧ w.grownBy w' none := by
  have HZ : Hid (Zs w z) := hz
  clear hz
  go_enter Ybad.func28, Ybad.ntmps28
  go_wp2_with fail
  refine (is4in6_any hi lo z _ ((HZ.out.grow (World.grownBy_alloc _ _ _)).grow (World.grownBy_alloc _ _ _))).mono ?_
  rintro e w1 ⟨rfl, hg⟩
  have K1 : Hid (w1.heap[w.heap.size]? = some (.cells #[.int .u64 hi, .int .u64 lo, .pointer (some z)] 95 (0, 0))) := by
    refine gblockN hg ?_
    rw [Below.heap_alloc _ _ _ (by simp)]
    exact heap_alloc_new _ _
  have L1 : Hid (w1.heap[w.heap.size + 1]? = some (.cells #[.int .u64 0, .int .u64 0, .pointer none] 95 (0, 0))) := by
    refine gblockN hg ?_
    have := heap_alloc_new (w.alloc (.cells #[.int .u64 hi, .int .u64 lo, .pointer (some z)] 95)) (.cells #[.int .u64 0, .int .u64 0, .pointer none] 95)
    simpa using this
  have d0 : w1.cell? ⟨w.heap.size, 0, none⟩ = some (.int .u64 hi) := cellOf K1.out
  have d1 : w1.cell? ⟨w.heap.size, 1, none⟩ = some (.int .u64 lo) := cellOf K1.out
  have d2 : w1.cell? ⟨w.heap.size, 2, none⟩ = some (.pointer (some z)) := cellOf K1.out
  have f0 : w1.cell? ⟨w.heap.size + 1, 0, none⟩ = some (.int .u64 0) := cellOf L1.out
  have f1 : w1.cell? ⟨w.heap.size + 1, 1, none⟩ = some (.int .u64 0) := cellOf L1.out
  have f2 : w1.cell? ⟨w.heap.size + 1, 2, none⟩ = some (.pointer none) := cellOf L1.out
  have z0 : w1.frozen? ⟨w.heap.size + 1, 0, none⟩ = false := frozenOf L1.out
  have z1 : w1.frozen? ⟨w.heap.size + 1, 1, none⟩ = false := frozenOf L1.out
  have z2 : w1.frozen? ⟨w.heap.size + 1, 2, none⟩ = false := frozenOf L1.out
  have HG : Hid (w.grownBy w1 none) := gtrans (gtrans (World.grownBy_alloc _ _ _) (World.grownBy_alloc _ _ _)) hg
  clear hg K1 L1
  go_wp2
  refine bodyPost_ret (v := .agg #[.int .u64 hi, .int .u64 lo, .pointer (some z)]) (by simp [results, Ybad.results28, go_sem, f0, f1, f2]) rfl ⟨rfl, ?_⟩
  exact gset2 (gset2 (gset2 HG.out (by simp)) (by simp)) (by simp)

/-- (f19) AddrPort.Addr. -/
theorem addr_any (hi lo p : Int) (z : Addr) (w : World) :
    Calls Ybad.prog 19 #[.agg #[.int .u64 hi, .int .u64 lo, .pointer (some z), .int .u16 p]] w fun e w' => e = .returned (.agg #[.int .u64 hi, .int .u64 lo, .pointer (some z)]) ∧ w.grownBy w' none := by
  go_enter Ybad.func19, Ybad.ntmps19
  go_wp2
  refine bodyPost_ret (v := .agg #[.int .u64 hi, .int .u64 lo, .pointer (some z)]) (by simp [results, Ybad.results19, go_sem]) rfl ⟨rfl, ?_⟩
  exact gtrans (World.grownBy_alloc _ _ _) (World.grownBy_alloc _ _ _)

/-- (f13) AddrPortFrom. -/
theorem addrPort_any (hi lo p : Int) (z : Addr) (w : World) :
    Calls Ybad.prog 13 #[.agg #[.int .u64 hi, .int .u64 lo, .pointer (some z)], .int .u16 p] w fun e w' => e = .returned (.agg #[.int .u64 hi, .int .u64 lo, .pointer (some z), .int .u16 p]) ∧ w.grownBy w' none := by
  go_enter Ybad.func13, Ybad.ntmps13
  go_wp2
  refine bodyPost_ret (v := .agg #[.int .u64 hi, .int .u64 lo, .pointer (some z), .int .u16 p]) (by simp [results, Ybad.results13, go_sem]) rfl ⟨rfl, ?_⟩
  exact gtrans (World.grownBy_alloc _ _ _) (World.grownBy_alloc _ _ _)

/-- (f14) AddrFrom4. -/
theorem from4_any (a b c d : Int) (ha : 0 ≤ a ∧ a ≤ 255) (hb : 0 ≤ b ∧ b ≤ 255) (hc : 0 ≤ c ∧ c ≤ 255) (hd : 0 ≤ d ∧ d ≤ 255) (z : Addr) (w : World) (hz : Zs w z) :
    Calls Ybad.prog 14 #[.agg #[.int .u8 a, .int .u8 b, .int .u8 c, .int .u8 d]] w fun e w' => (∃ lo, e = .returned (.agg #[.int .u64 0, .int .u64 lo, .pointer (some z)])) ∧ w.grownBy w' none := by
  obtain ⟨h4, h0⟩ := hz.lt
  have hz4 := hz.z4
  obtain ⟨ha0, ha1⟩ := ha
  obtain ⟨hb0, hb1⟩ := hb
  obtain ⟨hc0, hc1⟩ := hc
  obtain ⟨hd0, hd1⟩ := hd
  clear hz
  go_enter Ybad.func14, Ybad.ntmps14
  go_wp2
  refine bodyPost_ret (by simp [results, Ybad.results14, go_sem]; rfl) rfl ⟨⟨_, rfl⟩, ?_⟩
  exact gtrans (World.grownBy_alloc _ _ _) (World.grownBy_alloc _ _ _)
end Go.Proofs.YbulkaptmDoor
