/-
  (f38) appendAVP, within the capacity: the row gains the AVP's encoding.
-/
import Derived.Test.YbulkaptmDoorBase
import Derived.Deep.RegionWith
namespace Go.Proofs.YbulkaptmDoor
open Go.RowKit
set_option linter.unusedVariables false
set_option maxRecDepth 100000

/-- The numbers of an AVP fit their kinds, its value is not long, and its bytes can be read. -/
structure Avp.Ok (a : Avp) (W : World) : Prop where
  c0 : 0 ≤ a.code
  c1 : a.code < 4294967296
  f0 : 0 ≤ a.flags
  f1 : a.flags ≤ 255
  v0 : 0 ≤ a.vendor
  v1 : a.vendor < 4294967296
  small : a.dl ≤ 1048576
  row : IsRow .u8 W a.da a.dl a.dl a.data
  dn : a.da = none → a.dl = 0 ∧ a.dc = 0

/-- An AVP as a value. -/
def Avp.val (a : Avp) : Value := .agg #[.int .u32 a.code, .int .u8 a.flags, .int .u32 a.vendor, .slice a.da a.dl a.dc]

theorem bits_u32_bounds (op : BinOp) (x y : Int) : 0 ≤ bits op .u32 x y ∧ bits op .u32 x y < 4294967296 := by
  have := bounds_u32 (wf_bits op .u32 x y)
  omega
theorem word2_bounds (f : Int) (n : Nat) : 0 ≤ word2 f n ∧ word2 f n < 4294967296 := bits_u32_bounds _ _ _

theorem enc_true {a : Avp} (h : vbit a.flags = true) (xs : List Value) : xs ++ (enc a).map (Value.int .u8) = xs ++ (be32 a.code).map (Value.int .u8) ++ (be32 (word2 a.flags a.dl)).map (Value.int .u8) ++ (be32 a.vendor).map (Value.int .u8) ++ (a.data.take a.dl).map (Value.int .u8) ++ List.replicate (pad a.dl) (Value.int .u8 0) := by
  simp [enc, h]
theorem enc_false {a : Avp} (h : vbit a.flags = false) (xs : List Value) : xs ++ (enc a).map (Value.int .u8) = xs ++ (be32 a.code).map (Value.int .u8) ++ (be32 (word2 a.flags a.dl)).map (Value.int .u8) ++ (a.data.take a.dl).map (Value.int .u8) ++ List.replicate (pad a.dl) (Value.int .u8 0) := by
  simp [enc, h]

set_option maxHeartbeats 3200000 in
theorem appendAVP_fits (a : Avp) (W w : World) (g n cap : Nat) (xs : List Value) (ha : a.Ok W) (hbel : Below W.heap.size W w)
    (hown : w.ownsRow W.heap.size 5 1 (.slice (some ⟨g, 0, none⟩) n cap) n xs) (hfit : n + elen a ≤ cap) :
    Calls Ybad.prog 38 #[.slice (some ⟨g, 0, none⟩) n cap, .agg #[.int .u32 a.code, .int .u8 a.flags, .int .u32 a.vendor, .slice a.da a.dl a.dc]] w fun e w' => e = .returned (.slice (some ⟨g, 0, none⟩) (n + elen a) cap) ∧
      w'.ownsRow W.heap.size 5 1 (.slice (some ⟨g, 0, none⟩) (n + elen a) cap) (n + elen a) (xs ++ (enc a).map (Value.int .u8)) ∧ w.grownBy w' (some g) := by
  obtain ⟨code, flags, vendor, da, dl, dc, data⟩ := a
  obtain ⟨i0, hi, hz0, hz1, hz2⟩ := info_parts info5
  have HA : Hid (Avp.Ok ⟨code, flags, vendor, da, dl, dc, data⟩ W) := ha
  have HO : Hid (w.ownsRow W.heap.size 5 1 (.slice (some ⟨g, 0, none⟩) n cap) n xs) := hown
  have HW : Hid (Below W.heap.size W w) := hbel
  have hs0 := hbel.size
  have hdl : dl ≤ 1048576 := ha.small
  have hc0 : 0 ≤ code := ha.c0
  have hc1 : code < 4294967296 := ha.c1
  have hf0 : 0 ≤ flags := ha.f0
  have hf1 : flags ≤ 255 := ha.f1
  have hg : W.heap.size ≤ g ∧ g < w.heap.size := hown.lt _ rfl
  have hg0 := hg.1
  have hg1 := hg.2
  clear ha hown hbel hg
  cases hv : vbit flags
  · have hh : hlen flags = 8 := by unfold hlen; rw [hv]; rfl
    have HV : Hid (vbit flags = false) := hv
    have HH : Hid (hlen flags = 8) := hh
    clear hv hh
    go_enter Ybad.func38, Ybad.ntmps38
    go_wp2_with fail
    refine (headerLen_any flags _).mono ?_
    rintro e w1 ⟨rfl, rfl⟩
    rw [HH.out]
    have H0 : Hid ((w.alloc (.cells #[.int .u32 code, .int .u8 flags, .int .u32 vendor, .slice da dl dc] 41)).heap[w.heap.size]? = some (.cells #[.int .u32 code, .int .u8 flags, .int .u32 vendor, .slice da dl dc] 41 (0, 0))) := heap_alloc_new _ _
    have hgne : some w.heap.size ≠ some g := by intro h; cases h; omega
    have hfit' : n + (8 + (dl + 3) / 4 * 4) ≤ cap := by unfold elen at hfit; rw [HH.out] at hfit; exact hfit
    have HF : Hid (elen { code := code, flags := flags, vendor := vendor, da := da, dl := dl, dc := dc, data := data } = 8 + (dl + 3) / 4 * 4) := by unfold elen; rw [HH.out]; rfl
    clear hfit
    go_wp2_with fail
    refine (appendU32_fits code hc0 hc1 W.heap.size g n cap xs _ (HO.out.alloc _) (by simp; omega) (by omega)).mono ?_
    rintro e w1 ⟨rfl, hown1, hg1⟩
    have H1 : Hid (w1.heap[w.heap.size]? = _) := gblock hg1 H0.out hgne
    have HO1 : Hid (w1.ownsRow W.heap.size 5 1 (.slice (some ⟨g, 0, none⟩) (n + 4) cap) (n + 4) (xs ++ (be32 code).map (Value.int .u8))) := hown1
    have HG1 : Hid (w.grownBy w1 (some g)) := gtrans (World.grownBy_alloc _ _ _) hg1
    have hs1 : w.heap.size ≤ w1.heap.size := HG1.out.size
    have c1 : w1.cell? ⟨w.heap.size, 1, none⟩ = some (.int .u8 flags) := cellOf H1.out
    have c3 : w1.cell? ⟨w.heap.size, 3, none⟩ = some (.slice da dl dc) := cellOf H1.out
    clear hown1 hg1 H0
    have hb2 := bits_u32_bounds BinOp.or (flags * 16777216) (8 + (dl : Int))
    have Hb2 : Hid _ := hb2
    have HW2 : Hid (word2 flags dl = bits BinOp.or IntKind.u32 (flags * 16777216) (8 + (dl : Int))) := by show word2 flags dl = _; unfold word2; rw [HH.out]; rfl
    clear hb2
    go_wp2_with fail
    refine (appendU32_fits _ Hb2.out.1 Hb2.out.2 W.heap.size g (n + 4) cap _ _ HO1.out (by omega) (by omega)).mono ?_
    rintro e w2 ⟨rfl, hown2, hg2⟩
    have H2 : Hid (w2.heap[w.heap.size]? = _) := gblock hg2 H1.out hgne
    have HO2 : Hid (w2.ownsRow W.heap.size 5 1 (.slice (some ⟨g, 0, none⟩) (n + 4 + 4) cap) (n + 4 + 4) (xs ++ (be32 code).map (Value.int .u8) ++ (be32 (word2 flags dl)).map (Value.int .u8))) := by rw [HW2.out]; exact hown2
    have HG2 : Hid (w.grownBy w2 (some g)) := gtrans HG1.out hg2
    have hs2 : w.heap.size ≤ w2.heap.size := HG2.out.size
    have e3 : w2.cell? ⟨w.heap.size, 3, none⟩ = some (.slice da dl dc) := cellOf H2.out
    have HB3 : Hid (Below W.heap.size W w2) := HW.out.grown HG2.out hs0 (by intro k hk; cases hk; exact hg0)
    clear hown2 hg2 H1 HO1 HG1 c1 c3 hs1 Hb2
    go_wp2_with (at_builtin; refine wpList_append_fits_any _ rfl _ _ 23 rfl W.heap.size 5 i0 1 Ybad.underlying23 hi hz1 g (n + 4 + 4) cap _ rfl HO2.out da dl dc ((data.take dl).map (Value.int .u8)) rfl ?f0 ?f1 ?f2 ?f3 ?f4 ?_)
    case f0 => simpa using HA.out.row.take_length
    case f1 => exact HA.out.dn
    case f2 => exact HA.out.row.cells HB3.out
    case f3 => exact ints_oneCell _ _
    case f4 => omega
    intro w4 hown4 hg4
    have H4 : Hid (w4.heap[w.heap.size]? = _) := gblock hg4 H2.out hgne
    have HG4 : Hid (w.grownBy w4 (some g)) := gtrans HG2.out hg4
    have k3 : w4.cell? ⟨w.heap.size, 3, none⟩ = some (.slice da dl dc) := cellOf H4.out
    have ho4 : w4.ownsRow W.heap.size 5 1 (.slice (some ⟨g, 0, none⟩) (n + 4 + 4 + dl) cap) (n + 4 + 4 + dl) (xs ++ (be32 code).map (Value.int .u8) ++ (be32 (word2 flags dl)).map (Value.int .u8) ++ (data.take dl).map (Value.int .u8)) := by simpa using hown4
    have HO4 : Hid (w4.ownsRow W.heap.size 5 1 (.slice (some ⟨g, 0, none⟩) (n + 4 + 4 + dl) cap) (n + 4 + 4 + dl) (xs ++ (be32 code).map (Value.int .u8) ++ (be32 (word2 flags dl)).map (Value.int .u8) ++ (data.take dl).map (Value.int .u8))) := ho4
    clear ho4
    clear hown4 hg4 H2 HO2 HG2 e3 HB3 H4
    obtain ⟨q, hq⟩ : ∃ q, q = (dl + 3) / 4 * 4 := ⟨_, rfl⟩
    have hq0 : (dl : Int) ≤ q := by omega
    have hq1 : (q : Int) ≤ 2000000 := by omega
    have HP : Hid (∀ w, Calls Ybad.prog 45 #[.int .i64 (dl : Int)] w fun e w' => e = .returned (.int .i64 (q : Int)) ∧ w' = w) := by rw [hq]; exact fun w => padded_any dl (by omega) w
    have hqd : (q : Int) - (dl : Int) = ((q - dl : Nat) : Int) := by omega
    have hqm : q - dl ≤ 1000000 := by omega
    have hqr : n + 4 + 4 + dl + (q - dl) ≤ cap := by omega
    have HQ : Hid (q = (dl + 3) / 4 * 4) := hq
    have HQD : Hid ((q : Int) - (dl : Int) = ((q - dl : Nat) : Int)) := hqd
    have HWR : Hid (IntKind.i64.wrap ((q : Int) - (dl : Int)) = (q : Int) - (dl : Int)) := by show IntKind.i64.wrap ((q : Int) - (dl : Int)) = _; rw [IntKind.wrap_i64]; omega
    clear hq hqd
    go_wp2_with fail
    go_region_law (first | (refine step_append_zeros rfl (.tmp 39) (.tmp 47) 23 3 rfl W.heap.size 5 i0 (.int .u8 0) Ybad.underlying23 Ybad.underlying3 hi hz1 hz0 rfl hz2 rfl g (n + 4 + 4 + dl) cap (q - dl) _ _ (by simp [Act.eval, Act.put]) (by simp [Act.eval, Act.put]; exact HWR.out) HQD.out HO4.out.drew hqm hqr ?_; intro w5 hown5 hg5) | (go_simp; go_at_call 45; refine Calls.mono (HP.out _) ?_; rintro e w' ⟨rfl, rfl⟩))
    all_goals
      have HO5 : Hid (w5.ownsRow W.heap.size 5 1 (.slice (some ⟨g, 0, none⟩) (n + 4 + 4 + dl + (q - dl)) cap) (n + 4 + 4 + dl + (q - dl)) (xs ++ (be32 code).map (Value.int .u8) ++ (be32 (word2 flags dl)).map (Value.int .u8) ++ (data.take dl).map (Value.int .u8) ++ List.replicate (q - dl) (Value.int .u8 0))) := hown5
      have HG5 : Hid (w4.grownBy w5 (some g)) := ⟨hg5.os, hg5.tape, hg5.output, hg5.size, hg5.block⟩
      clear hown5 hg5
      go_wp2
      go_ret
      have Heq : n + 4 + 4 + dl + (q - dl) = n + elen { code := code, flags := flags, vendor := vendor, da := da, dl := dl, dc := dc, data := data } := by have h1 := HF.out; have h2 := HQ.out; omega
      refine ⟨?_, ?_, ?_⟩
      · show Ending.returned (.slice (some ⟨g, 0, none⟩) (n + 4 + 4 + dl + (q - dl)) cap) = _
        rw [Heq]
      · rw [← Heq, enc_false (a := { code := code, flags := flags, vendor := vendor, da := da, dl := dl, dc := dc, data := data }) HV.out xs, show pad dl = q - dl by unfold pad; rw [HQ.out]]
        exact HO5.out
      · exact gtrans HG4.out HG5.out
  · have hh : hlen flags = 12 := by unfold hlen; rw [hv]; rfl
    have HV : Hid (vbit flags = true) := hv
    have HH : Hid (hlen flags = 12) := hh
    clear hv hh
    go_enter Ybad.func38, Ybad.ntmps38
    go_wp2_with fail
    refine (headerLen_any flags _).mono ?_
    rintro e w1 ⟨rfl, rfl⟩
    rw [HH.out]
    have H0 : Hid ((w.alloc (.cells #[.int .u32 code, .int .u8 flags, .int .u32 vendor, .slice da dl dc] 41)).heap[w.heap.size]? = some (.cells #[.int .u32 code, .int .u8 flags, .int .u32 vendor, .slice da dl dc] 41 (0, 0))) := heap_alloc_new _ _
    have hgne : some w.heap.size ≠ some g := by intro h; cases h; omega
    have hfit' : n + (12 + (dl + 3) / 4 * 4) ≤ cap := by unfold elen at hfit; rw [HH.out] at hfit; exact hfit
    have HF : Hid (elen { code := code, flags := flags, vendor := vendor, da := da, dl := dl, dc := dc, data := data } = 12 + (dl + 3) / 4 * 4) := by unfold elen; rw [HH.out]; rfl
    clear hfit
    go_wp2_with fail
    refine (appendU32_fits code hc0 hc1 W.heap.size g n cap xs _ (HO.out.alloc _) (by simp; omega) (by omega)).mono ?_
    rintro e w1 ⟨rfl, hown1, hg1⟩
    have H1 : Hid (w1.heap[w.heap.size]? = _) := gblock hg1 H0.out hgne
    have HO1 : Hid (w1.ownsRow W.heap.size 5 1 (.slice (some ⟨g, 0, none⟩) (n + 4) cap) (n + 4) (xs ++ (be32 code).map (Value.int .u8))) := hown1
    have HG1 : Hid (w.grownBy w1 (some g)) := gtrans (World.grownBy_alloc _ _ _) hg1
    have hs1 : w.heap.size ≤ w1.heap.size := HG1.out.size
    have c1 : w1.cell? ⟨w.heap.size, 1, none⟩ = some (.int .u8 flags) := cellOf H1.out
    have c3 : w1.cell? ⟨w.heap.size, 3, none⟩ = some (.slice da dl dc) := cellOf H1.out
    clear hown1 hg1 H0
    have hb2 := bits_u32_bounds BinOp.or (flags * 16777216) (12 + (dl : Int))
    have Hb2 : Hid _ := hb2
    have HW2 : Hid (word2 flags dl = bits BinOp.or IntKind.u32 (flags * 16777216) (12 + (dl : Int))) := by show word2 flags dl = _; unfold word2; rw [HH.out]; rfl
    clear hb2
    go_wp2_with fail
    refine (appendU32_fits _ Hb2.out.1 Hb2.out.2 W.heap.size g (n + 4) cap _ _ HO1.out (by omega) (by omega)).mono ?_
    rintro e w2 ⟨rfl, hown2, hg2⟩
    have H2 : Hid (w2.heap[w.heap.size]? = _) := gblock hg2 H1.out hgne
    have HO2 : Hid (w2.ownsRow W.heap.size 5 1 (.slice (some ⟨g, 0, none⟩) (n + 4 + 4) cap) (n + 4 + 4) (xs ++ (be32 code).map (Value.int .u8) ++ (be32 (word2 flags dl)).map (Value.int .u8))) := by rw [HW2.out]; exact hown2
    have HG2 : Hid (w.grownBy w2 (some g)) := gtrans HG1.out hg2
    have hs2 : w.heap.size ≤ w2.heap.size := HG2.out.size
    have d2 : w2.cell? ⟨w.heap.size, 2, none⟩ = some (.int .u32 vendor) := cellOf H2.out
    clear hown2 hg2 H1 HO1 HG1 c1 c3 hs1 Hb2
    go_wp2_with fail
    refine (appendU32_fits vendor HA.out.v0 HA.out.v1 W.heap.size g (n + 4 + 4) cap _ _ HO2.out (by omega) (by omega)).mono ?_
    rintro e w3 ⟨rfl, hown3, hg3⟩
    have H3 : Hid (w3.heap[w.heap.size]? = _) := gblock hg3 H2.out hgne
    have HO3 : Hid (w3.ownsRow W.heap.size 5 1 (.slice (some ⟨g, 0, none⟩) (n + 4 + 4 + 4) cap) (n + 4 + 4 + 4) (xs ++ (be32 code).map (Value.int .u8) ++ (be32 (word2 flags dl)).map (Value.int .u8) ++ (be32 vendor).map (Value.int .u8))) := hown3
    have HG3 : Hid (w.grownBy w3 (some g)) := gtrans HG2.out hg3
    have hs3 : w.heap.size ≤ w3.heap.size := HG3.out.size
    have e3 : w3.cell? ⟨w.heap.size, 3, none⟩ = some (.slice da dl dc) := cellOf H3.out
    have HB3 : Hid (Below W.heap.size W w3) := HW.out.grown HG3.out hs0 (by intro k hk; cases hk; exact hg0)
    clear hown3 hg3 H2 HO2 HG2 d2 hs2
    go_wp2_with (at_builtin; refine wpList_append_fits_any _ rfl _ _ 23 rfl W.heap.size 5 i0 1 Ybad.underlying23 hi hz1 g (n + 4 + 4 + 4) cap _ rfl HO3.out da dl dc ((data.take dl).map (Value.int .u8)) rfl ?f0 ?f1 ?f2 ?f3 ?f4 ?_)
    case f0 => simpa using HA.out.row.take_length
    case f1 => exact HA.out.dn
    case f2 => exact HA.out.row.cells HB3.out
    case f3 => exact ints_oneCell _ _
    case f4 => omega
    intro w4 hown4 hg4
    have H4 : Hid (w4.heap[w.heap.size]? = _) := gblock hg4 H3.out hgne
    have HG4 : Hid (w.grownBy w4 (some g)) := gtrans HG3.out hg4
    have k3 : w4.cell? ⟨w.heap.size, 3, none⟩ = some (.slice da dl dc) := cellOf H4.out
    have ho4 : w4.ownsRow W.heap.size 5 1 (.slice (some ⟨g, 0, none⟩) (n + 4 + 4 + 4 + dl) cap) (n + 4 + 4 + 4 + dl) (xs ++ (be32 code).map (Value.int .u8) ++ (be32 (word2 flags dl)).map (Value.int .u8) ++ (be32 vendor).map (Value.int .u8) ++ (data.take dl).map (Value.int .u8)) := by simpa using hown4
    have HO4 : Hid (w4.ownsRow W.heap.size 5 1 (.slice (some ⟨g, 0, none⟩) (n + 4 + 4 + 4 + dl) cap) (n + 4 + 4 + 4 + dl) (xs ++ (be32 code).map (Value.int .u8) ++ (be32 (word2 flags dl)).map (Value.int .u8) ++ (be32 vendor).map (Value.int .u8) ++ (data.take dl).map (Value.int .u8))) := ho4
    clear ho4
    clear hown4 hg4 H3 HO3 HG3 e3 HB3 H4
    obtain ⟨q, hq⟩ : ∃ q, q = (dl + 3) / 4 * 4 := ⟨_, rfl⟩
    have hq0 : (dl : Int) ≤ q := by omega
    have hq1 : (q : Int) ≤ 2000000 := by omega
    have HP : Hid (∀ w, Calls Ybad.prog 45 #[.int .i64 (dl : Int)] w fun e w' => e = .returned (.int .i64 (q : Int)) ∧ w' = w) := by rw [hq]; exact fun w => padded_any dl (by omega) w
    have hqd : (q : Int) - (dl : Int) = ((q - dl : Nat) : Int) := by omega
    have hqm : q - dl ≤ 1000000 := by omega
    have hqr : n + 4 + 4 + 4 + dl + (q - dl) ≤ cap := by omega
    have HQ : Hid (q = (dl + 3) / 4 * 4) := hq
    have HQD : Hid ((q : Int) - (dl : Int) = ((q - dl : Nat) : Int)) := hqd
    have HWR : Hid (IntKind.i64.wrap ((q : Int) - (dl : Int)) = (q : Int) - (dl : Int)) := by show IntKind.i64.wrap ((q : Int) - (dl : Int)) = _; rw [IntKind.wrap_i64]; omega
    clear hq hqd
    go_wp2_with fail
    go_region_law (first | (refine step_append_zeros rfl (.tmp 39) (.tmp 47) 23 3 rfl W.heap.size 5 i0 (.int .u8 0) Ybad.underlying23 Ybad.underlying3 hi hz1 hz0 rfl hz2 rfl g (n + 4 + 4 + 4 + dl) cap (q - dl) _ _ (by simp [Act.eval, Act.put]) (by simp [Act.eval, Act.put]; exact HWR.out) HQD.out HO4.out.drew hqm hqr ?_; intro w5 hown5 hg5) | (go_simp; go_at_call 45; refine Calls.mono (HP.out _) ?_; rintro e w' ⟨rfl, rfl⟩))
    all_goals
      have HO5 : Hid (w5.ownsRow W.heap.size 5 1 (.slice (some ⟨g, 0, none⟩) (n + 4 + 4 + 4 + dl + (q - dl)) cap) (n + 4 + 4 + 4 + dl + (q - dl)) (xs ++ (be32 code).map (Value.int .u8) ++ (be32 (word2 flags dl)).map (Value.int .u8) ++ (be32 vendor).map (Value.int .u8) ++ (data.take dl).map (Value.int .u8) ++ List.replicate (q - dl) (Value.int .u8 0))) := hown5
      have HG5 : Hid (w4.grownBy w5 (some g)) := ⟨hg5.os, hg5.tape, hg5.output, hg5.size, hg5.block⟩
      clear hown5 hg5
      go_wp2
      go_ret
      have Heq : n + 4 + 4 + 4 + dl + (q - dl) = n + elen { code := code, flags := flags, vendor := vendor, da := da, dl := dl, dc := dc, data := data } := by have h1 := HF.out; have h2 := HQ.out; omega
      refine ⟨?_, ?_, ?_⟩
      · show Ending.returned (.slice (some ⟨g, 0, none⟩) (n + 4 + 4 + 4 + dl + (q - dl)) cap) = _
        rw [Heq]
      · rw [← Heq, enc_true (a := { code := code, flags := flags, vendor := vendor, da := da, dl := dl, dc := dc, data := data }) HV.out xs, show pad dl = q - dl by unfold pad; rw [HQ.out]]
        exact HO5.out
      · exact gtrans HG4.out HG5.out
end Go.Proofs.YbulkaptmDoor
