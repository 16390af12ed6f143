/-
  What both rows want of the program: closed facts; the witness' heap (the door's own run); the listed variables, off 'laid'; the input.
-/
import Derived.Test.YbulkaptmDoorRows
import Derived.Test.YbulkaptmDoorMsg
import Derived.LaidMore
import Derived.OpenShut
import Derived.OpenVars
import Derived.Stop.Joined
import Derived.ProofKit
import Derived.ShutString
import Derived.ChangeOld
import Derived.KernelRfl
namespace Go.Proofs.YbulkaptmDoor
open Go.ChangeShapes Go.WideShapes Go.ChangeAt Go.RowKit
set_option linter.unusedVariables false
set_option maxRecDepth 100000

theorem own : ownKnob Ybad.prog.godebug = none := by kernel_rfl
theorem laidOut : laidOutB Ybad.prog = true := by kernel_rfl
theorem cells122 : Ybad.prog.cellsOf 122 = 5 := by kernel_rfl
theorem cells93 : Ybad.prog.cellsOf 93 = 1 := by kernel_rfl
theorem cells28 : Ybad.prog.cellsOf 28 = 18 := by kernel_rfl
theorem cells24 : Ybad.prog.cellsOf 24 = 4 := by kernel_rfl
theorem cells25 : Ybad.prog.cellsOf 25 = 1 := by kernel_rfl
theorem cells26 : Ybad.prog.cellsOf 26 = 1 := by kernel_rfl
theorem cells23 : Ybad.prog.cellsOf 23 = 1 := by kernel_rfl
theorem cells22 : Ybad.prog.cellsOf 22 = 1 := by kernel_rfl
theorem cells9 : Ybad.prog.cellsOf 9 = 1 := by kernel_rfl
theorem cells5 : Ybad.prog.cellsOf 5 = 1 := by kernel_rfl
theorem cells4 : Ybad.prog.cellsOf 4 = 1 := by kernel_rfl
theorem cells91 : Ybad.prog.cellsOf 91 = 1 := by kernel_rfl
theorem cells120 : Ybad.prog.cellsOf 120 = 1 := by kernel_rfl

/-- An attribute's variable, off its datum. -/
theorem ga_of {H : Type} {enc : TypeId × Value → H} {W : World} {n : String} {g b fuel : Nat} {sp : Nat → Bool} {held : Bool} {cs : Array Value} {nb : List UInt8} {code typ : Int} {mand : Bool} {p : List MemPlace}
    (hg : Ybad.prog.globalNamed n = some g) (hv : W.var? Ybad.prog n = some cs)
    (hd : DataW.trod enc Ybad.prog W b sp held fuel 122 cs.toList = some (.agg [.lit (.string nb), .lit (.int .u32 code), .lit (.int .u32 0), .lit (.bool mand), .lit (.int .u8 typ)], p)) : ∃ s, GA W g s code mand typ := by
  obtain ⟨xs, m, _, hx, hl, hlen, hf⟩ := DataW.trod_struct Ybad.underlying122 hd
  rw [cells122] at hl
  obtain ⟨cl⟩ := cs
  match cl, xs, hl, hlen with
  | [c0, c1, c2, c3, c4], [y0, y1, y2, y3, y4], _, _ =>
    have t0 := hf 0 _ rfl
    have t1 := hf 1 _ rfl
    have t2 := hf 2 _ rfl
    have t3 := hf 3 _ rfl
    have t4 := hf 4 _ rfl
    simp [cells9, cells22, cells4, cells120] at t0 t1 t2 t3 t4
    obtain ⟨s, e0, f0, _⟩ := DataW.trod_string Ybad.underlying9 t0
    obtain ⟨n1, e1, f1, _⟩ := DataW.trod_int Ybad.underlying22 t1
    obtain ⟨n2, e2, f2, _⟩ := DataW.trod_int Ybad.underlying22 t2
    obtain ⟨n3, e3, f3⟩ := DataW.trod_bool Ybad.underlying4 t3
    obtain ⟨n4, e4, f4, _⟩ := DataW.trod_int Ybad.underlying120 t4
    simp at e0 e1 e2 e3 e4
    simp [f0, f1, f2, f3, f4] at hx
    obtain ⟨⟨_, h1, h2, h3, h4⟩, _⟩ := hx
    subst e0 e1 e2 e3 e4 h1 h2 h3 h4
    exact ⟨s, by simpa using World.var?_cell hg hv 0, by simpa using World.var?_cell hg hv 1, by simpa using World.var?_cell hg hv 2, by simpa using World.var?_cell hg hv 3, by simpa using World.var?_cell hg hv 4⟩

theorem z4_of {H : Type} {enc : TypeId × Value → H} {W : World} {n : String} {g b fuel : Nat} {sp : Nat → Bool} {held : Bool} {cs : Array Value} {d : DataW H} {p : List MemPlace}
    (hg : Ybad.prog.globalNamed n = some g) (hv : W.var? Ybad.prog n = some cs)
    (hd : DataW.trod enc Ybad.prog W b sp held fuel 93 cs.toList = some (.agg [.ptr d], p)) : ∃ z, W.cell? ⟨g, 0, none⟩ = some (.pointer (some z)) := by
  obtain ⟨xs, m, _, hx, hl, hlen, hf⟩ := DataW.trod_struct Ybad.underlying93 hd
  rw [cells93] at hl
  obtain ⟨cl⟩ := cs
  match cl, xs, hl, hlen with
  | [c0], [y0], _, _ =>
    have t0 := hf 0 _ rfl
    simp [cells91] at t0
    rcases DataW.trod_pointer Ybad.underlying91 t0 with ⟨e0, f0⟩ | ⟨a, cs', y, k, _, e0, f0, _⟩
    · simp [f0] at hx
    · simp at e0
      subst e0
      exact ⟨a, by simpa using World.var?_cell hg hv 0⟩
theorem z0_of {H : Type} {enc : TypeId × Value → H} {W : World} {n : String} {g b fuel : Nat} {sp : Nat → Bool} {held : Bool} {cs : Array Value} {p : List MemPlace}
    (hg : Ybad.prog.globalNamed n = some g) (hv : W.var? Ybad.prog n = some cs)
    (hd : DataW.trod enc Ybad.prog W b sp held fuel 93 cs.toList = some (.agg [.nil], p)) : W.cell? ⟨g, 0, none⟩ = some (.pointer none) := by
  obtain ⟨xs, m, _, hx, hl, hlen, hf⟩ := DataW.trod_struct Ybad.underlying93 hd
  rw [cells93] at hl
  obtain ⟨cl⟩ := cs
  match cl, xs, hl, hlen with
  | [c0], [y0], _, _ =>
    have t0 := hf 0 _ rfl
    simp [cells91] at t0
    rcases DataW.trod_pointer Ybad.underlying91 t0 with ⟨e0, f0⟩ | ⟨a, cs', y, k, _, e0, f0, _⟩
    · simp at e0
      subst e0
      simpa using World.var?_cell hg hv 0
    · simp [f0] at hx

/-- The listed variables, as the walks want them. -/
theorem of_laid {W : World} (h : laidMetH Ybad.prog Rows.lawS2066CFailureRow.laid W) : ∃ nm z, Globs W nm z := by
  rw [MakeChecks.laidMetH_plain _ _ _ (by kernel_rfl)] at h
  obtain ⟨ps, ⟨x0, t0, cs0, f0, p0, q0, hg0, ht0, hv0, hd0, ⟨x1, t1, cs1, f1, p1, q1, hg1, ht1, hv1, hd1, ⟨x2, t2, cs2, f2, p2, q2, hg2, ht2, hv2, hd2, ⟨x3, t3, cs3, f3, p3, q3, hg3, ht3, hv3, hd3, ⟨x4, t4, cs4, f4, p4, q4, hg4, ht4, hv4, hd4, ⟨x5, t5, cs5, f5, p5, q5, hg5, ht5, hv5, hd5, ⟨x6, t6, cs6, f6, p6, q6, hg6, ht6, hv6, hd6, ⟨x7, t7, cs7, f7, p7, q7, hg7, ht7, hv7, hd7, ⟨x8, t8, cs8, f8, p8, q8, hg8, ht8, hv8, hd8, ⟨x9, t9, cs9, f9, p9, q9, hg9, ht9, hv9, hd9, ⟨x10, t10, cs10, f10, p10, q10, hg10, ht10, hv10, hd10, ⟨x11, t11, cs11, f11, p11, q11, hg11, ht11, hv11, hd11, ⟨x12, t12, cs12, f12, p12, q12, hg12, ht12, hv12, hd12, ⟨x13, t13, cs13, f13, p13, q13, hg13, ht13, hv13, hd13, ⟨x14, t14, cs14, f14, p14, q14, hg14, ht14, hv14, hd14, ⟨x15, t15, cs15, f15, p15, q15, hg15, ht15, hv15, hd15, _, _⟩, _⟩, _⟩, _⟩, _⟩, _⟩, _⟩, _⟩, _⟩, _⟩, _⟩, _⟩, _⟩, _⟩, _⟩, _⟩, _, _⟩ := h
  obtain rfl : x0 = 5 := Option.some.inj (hg0.symm.trans (by kernel_rfl))
  obtain rfl : t0 = 93 := Option.some.inj (ht0.symm.trans (by kernel_rfl))
  obtain rfl : x1 = 1 := Option.some.inj (hg1.symm.trans (by kernel_rfl))
  obtain rfl : t1 = 122 := Option.some.inj (ht1.symm.trans (by kernel_rfl))
  obtain rfl : x2 = 14 := Option.some.inj (hg2.symm.trans (by kernel_rfl))
  obtain rfl : t2 = 122 := Option.some.inj (ht2.symm.trans (by kernel_rfl))
  obtain rfl : x3 = 15 := Option.some.inj (hg3.symm.trans (by kernel_rfl))
  obtain rfl : t3 = 122 := Option.some.inj (ht3.symm.trans (by kernel_rfl))
  obtain rfl : x4 = 6 := Option.some.inj (hg4.symm.trans (by kernel_rfl))
  obtain rfl : t4 = 122 := Option.some.inj (ht4.symm.trans (by kernel_rfl))
  obtain rfl : x5 = 7 := Option.some.inj (hg5.symm.trans (by kernel_rfl))
  obtain rfl : t5 = 122 := Option.some.inj (ht5.symm.trans (by kernel_rfl))
  obtain rfl : x6 = 13 := Option.some.inj (hg6.symm.trans (by kernel_rfl))
  obtain rfl : t6 = 122 := Option.some.inj (ht6.symm.trans (by kernel_rfl))
  obtain rfl : x7 = 2 := Option.some.inj (hg7.symm.trans (by kernel_rfl))
  obtain rfl : t7 = 122 := Option.some.inj (ht7.symm.trans (by kernel_rfl))
  obtain rfl : x8 = 0 := Option.some.inj (hg8.symm.trans (by kernel_rfl))
  obtain rfl : t8 = 122 := Option.some.inj (ht8.symm.trans (by kernel_rfl))
  obtain rfl : x9 = 3 := Option.some.inj (hg9.symm.trans (by kernel_rfl))
  obtain rfl : t9 = 122 := Option.some.inj (ht9.symm.trans (by kernel_rfl))
  obtain rfl : x10 = 4 := Option.some.inj (hg10.symm.trans (by kernel_rfl))
  obtain rfl : t10 = 122 := Option.some.inj (ht10.symm.trans (by kernel_rfl))
  obtain rfl : x11 = 11 := Option.some.inj (hg11.symm.trans (by kernel_rfl))
  obtain rfl : t11 = 122 := Option.some.inj (ht11.symm.trans (by kernel_rfl))
  obtain rfl : x12 = 8 := Option.some.inj (hg12.symm.trans (by kernel_rfl))
  obtain rfl : t12 = 122 := Option.some.inj (ht12.symm.trans (by kernel_rfl))
  obtain rfl : x13 = 9 := Option.some.inj (hg13.symm.trans (by kernel_rfl))
  obtain rfl : t13 = 122 := Option.some.inj (ht13.symm.trans (by kernel_rfl))
  obtain rfl : x14 = 10 := Option.some.inj (hg14.symm.trans (by kernel_rfl))
  obtain rfl : t14 = 122 := Option.some.inj (ht14.symm.trans (by kernel_rfl))
  obtain rfl : x15 = 16 := Option.some.inj (hg15.symm.trans (by kernel_rfl))
  obtain rfl : t15 = 93 := Option.some.inj (ht15.symm.trans (by kernel_rfl))
  obtain ⟨z, hz4⟩ := z4_of hg0 hv0 hd0
  obtain ⟨s1, a1⟩ := ga_of hg1 hv1 hd1
  obtain ⟨s14, a14⟩ := ga_of hg2 hv2 hd2
  obtain ⟨s15, a15⟩ := ga_of hg3 hv3 hd3
  obtain ⟨s6, a6⟩ := ga_of hg4 hv4 hd4
  obtain ⟨s7, a7⟩ := ga_of hg5 hv5 hd5
  obtain ⟨s13, a13⟩ := ga_of hg6 hv6 hd6
  obtain ⟨s2, a2⟩ := ga_of hg7 hv7 hd7
  obtain ⟨s0, a0⟩ := ga_of hg8 hv8 hd8
  obtain ⟨s3, a3⟩ := ga_of hg9 hv9 hd9
  obtain ⟨s4, a4⟩ := ga_of hg10 hv10 hd10
  obtain ⟨s11, a11⟩ := ga_of hg11 hv11 hd11
  obtain ⟨s8, a8⟩ := ga_of hg12 hv12 hd12
  obtain ⟨s9, a9⟩ := ga_of hg13 hv13 hd13
  obtain ⟨s10, a10⟩ := ga_of hg14 hv14 hd14
  have hz0 := z0_of hg15 hv15 hd15
  refine ⟨fun k => match k with | 0 => s0 | 1 => s1 | 2 => s2 | 3 => s3 | 4 => s4 | 6 => s6 | 7 => s7 | 8 => s8 | 9 => s9 | 10 => s10 | 11 => s11 | 13 => s13 | 14 => s14 | 15 => s15 | _ => s0, z, ⟨a0, a1, a2, a3, a4, a6, a7, a8, a9, a10, a11, a13, a14, a15, ⟨hz4, hz0⟩, ?_⟩⟩
  exact World.block_lt_of_cell? _ _ hz0

end Go.Proofs.YbulkaptmDoor
