/-
  The law, walked: one case of each.
-/
import Derived.Test.YbulkaptmDoorLawC
namespace Go.Proofs.YbulkaptmDoor
open Go.RowKit
set_option linter.unusedVariables false
set_option linter.unusedSimpArgs false
set_option maxRecDepth 100000

set_option maxHeartbeats 6400000 in
theorem law_3_FF (fl cmd app hop ete : Int) (sa : Option Addr) (sl sc : Nat) (host realm prod : ByteArray) (st i0 i1 i2 i3 port : Int) (ia : Option Addr) (il ic : Nat) (va : Option Addr) (vl vc : Nat) (kind r fc : Int) (ids vends sid : List Int) (nm : Nat → ByteArray) (z : Addr) (w : World) (hG : Globs w nm z) (hil : il ≤ 1024) (hvl : vl ≤ 1024) (hsl : sl ≤ 1024)
    (hI : IsRow .u32 w ia il ic ids) (hV : IsRow .u32 w va vl vc vends) (hSd : IsRow .u8 w sa sl sc sid) (hst0 : 0 ≤ st) (hst1 : st < 4294967296)
    (hr : (0 ≤ i0 ∧ i0 ≤ 255) ∧ (0 ≤ i1 ∧ i1 ≤ 255) ∧ (0 ≤ i2 ∧ i2 ≤ 255) ∧ (0 ≤ i3 ∧ i3 ≤ 255)) (hr0 : 0 ≤ r) (hr1 : r < 4294967296) (hf0 : 0 ≤ fc) (hf1 : fc < 4294967296) (hk0 : 0 ≤ kind) (hk : kind % 2 ≠ 0) (hq : r / 1000 = 3) :
    Calls Ybad.prog 4 #[.agg #[.int .u8 fl, .int .u32 cmd, .int .u32 app, .int .u32 hop, .int .u32 ete, .bool false, .slice sa sl sc, .string host, .string realm, .string prod, .int .u32 st, .int .u8 i0, .int .u8 i1, .int .u8 i2, .int .u8 i3, .int .u16 port, .slice ia il ic, .slice va vl vc], .int .u8 kind, .int .u32 r, .int .u32 0, .bool false, .int .u32 fc] w fun e w' => e = .returned (.bool true) ∧ w.grownBy w' none := by
  have GL : Hid (Globs w nm z) := hG
  have HI : Hid (IsRow .u32 w ia il ic ids ∧ IsRow .u32 w va vl vc vends ∧ IsRow .u8 w sa sl sc sid) := ⟨hI, hV, hSd⟩
  have HR : Hid ((0 ≤ i0 ∧ i0 ≤ 255) ∧ (0 ≤ i1 ∧ i1 ≤ 255) ∧ (0 ≤ i2 ∧ i2 ≤ 255) ∧ (0 ≤ i3 ∧ i3 ≤ 255)) := hr
  have HL : Hid (il ≤ 1024 ∧ vl ≤ 1024 ∧ sl ≤ 1024) := ⟨hil, hvl, hsl⟩
  have HST : Hid (0 ≤ st ∧ st < 4294967296) := ⟨hst0, hst1⟩
  have HRR : Hid ((0 ≤ r ∧ r < 4294967296) ∧ (0 ≤ fc ∧ fc < 4294967296)) := ⟨⟨hr0, hr1⟩, ⟨hf0, hf1⟩⟩
  have HQ : Hid (r / 1000 = 3) := hq
  have hqd : r.tdiv 1000 = 3 := by rw [Int.tdiv_eq_ediv_of_nonneg hr0]; exact hq
  clear hq
  have l1 : ¬ (1024 : Int) < (il : Int) := by omega
  have l2 : ¬ (1024 : Int) < (vl : Int) := by omega
  have l3 : ¬ (1024 : Int) < (sl : Int) := by omega
  have hkd : kind.tmod 2 ≠ 0 := by rw [Int.tmod_eq_emod_of_nonneg hk0]; exact hk
  have c16 : (w.alloc (.cells #[.int .u8 fl, .int .u32 cmd, .int .u32 app, .int .u32 hop, .int .u32 ete, .bool false, .slice sa sl sc, .string host, .string realm, .string prod, .int .u32 st, .int .u8 i0, .int .u8 i1, .int .u8 i2, .int .u8 i3, .int .u16 port, .slice ia il ic, .slice va vl vc] 28)).cell? ⟨w.heap.size, 16, none⟩ = some (.slice ia il ic) := cellOf (heap_alloc_new _ _)
  have c17 : (w.alloc (.cells #[.int .u8 fl, .int .u32 cmd, .int .u32 app, .int .u32 hop, .int .u32 ete, .bool false, .slice sa sl sc, .string host, .string realm, .string prod, .int .u32 st, .int .u8 i0, .int .u8 i1, .int .u8 i2, .int .u8 i3, .int .u16 port, .slice ia il ic, .slice va vl vc] 28)).cell? ⟨w.heap.size, 17, none⟩ = some (.slice va vl vc) := cellOf (heap_alloc_new _ _)
  have c6 : (w.alloc (.cells #[.int .u8 fl, .int .u32 cmd, .int .u32 app, .int .u32 hop, .int .u32 ete, .bool false, .slice sa sl sc, .string host, .string realm, .string prod, .int .u32 st, .int .u8 i0, .int .u8 i1, .int .u8 i2, .int .u8 i3, .int .u16 port, .slice ia il ic, .slice va vl vc] 28)).cell? ⟨w.heap.size, 6, none⟩ = some (.slice sa sl sc) := cellOf (heap_alloc_new _ _)
  clear hG hI hV hSd hr hil hvl hsl hst0 hst1 hr0 hr1 hf0 hf1 hk0 hk
  go_enter Ybad.func4, Ybad.ntmps4
  have RB : Hid ((w.alloc (.cells #[.int .u8 fl, .int .u32 cmd, .int .u32 app, .int .u32 hop, .int .u32 ete, .bool false, .slice sa sl sc, .string host, .string realm, .string prod, .int .u32 st, .int .u8 i0, .int .u8 i1, .int .u8 i2, .int .u8 i3, .int .u16 port, .slice ia il ic, .slice va vl vc] 28)).rangeAt w.heap.size 0 [.int .u8 fl, .int .u32 cmd, .int .u32 app, .int .u32 hop, .int .u32 ete, .bool false, .slice sa sl sc, .string host, .string realm, .string prod, .int .u32 st, .int .u8 i0, .int .u8 i1, .int .u8 i2, .int .u8 i3, .int .u16 port, .slice ia il ic, .slice va vl vc] ∧ ([.int .u8 fl, .int .u32 cmd, .int .u32 app, .int .u32 hop, .int .u32 ete, .bool false, .slice sa sl sc, .string host, .string realm, .string prod, .int .u32 st, .int .u8 i0, .int .u8 i1, .int .u8 i2, .int .u8 i3, .int .u16 port, .slice ia il ic, .slice va vl vc] : List Value).length = 18) := ⟨range_block (heap_alloc_new _ _), rfl⟩
  go_wp2_with (with_reducible refine load28 ?hw (.tmp 6) rfl w.heap.size ?hx [.int .u8 fl, .int .u32 cmd, .int .u32 app, .int .u32 hop, .int .u32 ete, .bool false, .slice sa sl sc, .string host, .string realm, .string prod, .int .u32 st, .int .u8 i0, .int .u8 i1, .int .u8 i2, .int .u8 i3, .int .u16 port, .slice ia il ic, .slice va vl vc] RB.out ?_)
  try (case hw => rfl)
  try (case hx => rfl)
  go_wp2_with fail
  obtain ⟨W0, hW0⟩ : ∃ W0, W0 = w.alloc (.cells #[.int .u8 fl, .int .u32 cmd, .int .u32 app, .int .u32 hop, .int .u32 ete, .bool false, .slice sa sl sc, .string host, .string realm, .string prod, .int .u32 st, .int .u8 i0, .int .u8 i1, .int .u8 i2, .int .u8 i3, .int .u16 port, .slice ia il ic, .slice va vl vc] 28) := ⟨_, rfl⟩
  rw [← hW0]
  have G0 : Hid (w.grownBy W0 none) := by show w.grownBy W0 none; rw [hW0]; exact World.grownBy_alloc _ _ _
  have K0 : Hid (W0.heap[w.heap.size]? = some (.cells #[.int .u8 fl, .int .u32 cmd, .int .u32 app, .int .u32 hop, .int .u32 ete, .bool false, .slice sa sl sc, .string host, .string realm, .string prod, .int .u32 st, .int .u8 i0, .int .u8 i1, .int .u8 i2, .int .u8 i3, .int .u16 port, .slice ia il ic, .slice va vl vc] 28 (0, 0))) := by show W0.heap[w.heap.size]? = _; rw [hW0]; exact heap_alloc_new _ _
  clear hW0 c16 c17 c6 l1 l2 l3 RB
  refine (build_any fl cmd app hop ete false sa sl sc host realm prod st i0 i1 i2 i3 port ia il ic va vl vc ids vends sid z W0 HL.out.1 HL.out.2.1 HL.out.2.2 (isRow_grow HI.out.1 G0.out) (isRow_grow HI.out.2.1 G0.out) (isRow_grow HI.out.2.2 G0.out) (GL.out.grow G0.out).zs HR.out).mono ?_
  rintro e w1 ⟨c, s, m, lo, apps, sq, rfl, hsr, hlo, hmb, hown, hg1, hw0, hw1⟩
  have SR1 : Hid (Srv w1 c s host realm prod st lo port z apps) := hsr
  have LO : Hid (0 ≤ lo ∧ lo < 18446744073709551616) := by have := bounds_u64 hlo; exact ⟨this.1, by have := this.2; omega⟩
  have M1 : Hid (w1.heap[m]? = some (.cells #[.int .u8 fl, .int .u32 cmd, .int .u32 app, .int .u32 hop, .int .u32 ete, sq] 37 (0, 0))) := hmb
  have G1 : Hid (w.grownBy w1 none) := gtrans G0.out hg1
  have K1 : Hid (w1.heap[w.heap.size]? = some (.cells #[.int .u8 fl, .int .u32 cmd, .int .u32 app, .int .u32 hop, .int .u32 ete, .bool false, .slice sa sl sc, .string host, .string realm, .string prod, .int .u32 st, .int .u8 i0, .int .u8 i1, .int .u8 i2, .int .u8 i3, .int .u16 port, .slice ia il ic, .slice va vl vc] 28 (0, 0))) := gblockN hg1 K0.out
  obtain ⟨bq, capq, hsq, hcq⟩ := hw0 rfl
  have CQ : Hid (∀ j u, [Value.int .u32 1, .int .u8 0, .int .u32 0, .slice none 0 0][j]? = some u → w1.cell? ((⟨bq, 0, none⟩ : Addr).add j) = some u) := hcq
  subst hsq
  clear hsr hlo hmb hown hg1 hw0 hw1 hcq G0 K0
  go_wp2_with fail
  obtain ⟨w2, hw2⟩ : ∃ w2, w2 = w1.alloc (.cells #[.int .u32 r, .int .u32 0, .pointer none] 51) := ⟨_, rfl⟩
  rw [← hw2]
  have G12 : Hid (w1.grownBy w2 none) := by show w1.grownBy w2 none; rw [hw2]; exact World.grownBy_alloc _ _ _
  have E2 : Hid (w2.heap[w1.heap.size]? = some (.cells #[.int .u32 r, .int .u32 0, .pointer none] 51 (0, 0))) := by show w2.heap[w1.heap.size]? = _; rw [hw2]; exact heap_alloc_new _ _
  clear hw2
  have GL2 : Hid (Globs w2 nm z) := GL.out.grow (gtrans G1.out G12.out)
  refine (cea_fail c s m host realm prod st lo port apps 48 _ fl cmd app hop ete _ (⟨0, 0, 0, none, 0, 0⟩ : Av) false [] r 0 false w2 nm z (by exact rfl) (by simp) (SR1.out.grow G12.out) LO.out.1 LO.out.2 HST.out.1 HST.out.2 (gblockN G12.out M1.out) GL2.out
    (fun w' hg0 => by have hg := gtrans G12.out hg0; exact (find_one bq capq (nm 6) true 1 w' (gcell hg (cellsAt CQ.out 0 _ rfl)) (gcell hg (cellsAt CQ.out 1 _ rfl)) (gcell hg (cellsAt CQ.out 2 _ rfl)) (gcell hg (cellsAt CQ.out 3 _ rfl)))) (fun w1' p fl' sv avs hg hms hn => fail_3_none w1' _ p fl' cmd app hop ete sv avs nm z w1.heap.size r  hms ((GL.out.grow (gtrans G1.out G12.out)).grow hg) (Nat.le_trans GL.out.big (gtrans G1.out G12.out).size) hn HRR.out.1.1 HRR.out.1.2 (gblockN hg E2.out) HQ.out )).mono ?_
  rintro e w3 ⟨p, sv, a1, a2, b1, rest, c1, c2, c3, c4, rfl, hms, ha1, ha2, hb1, hb2, hr1, hr2, hc1, hc2, hc2d, hc2u, hc3, hc4, hc4d, hc4u, hg3⟩
  have hrest := hr1 rfl
  subst hrest
  rw [if_pos ⟨rfl, HQ.out⟩] at hms
  obtain ⟨hbc, hbd, hbu⟩ := hb2 rfl
  obtain ⟨g, cap, hsv, hcells⟩ := own_cells hms.row (by simp)
  have hsv2 : sv = .slice (some ⟨g, 0, none⟩) 7 cap := hsv
  subst hsv2
  have CC : Hid (∀ j u, (flat [a1, a2, b1, c1, c2, c3, c4])[j]? = some u → w3.cell? ((⟨g, 0, none⟩ : Addr).add j) = some u) := hcells
  have P3 : Hid (w3.heap[p]? = some (.cells #[.int .u8 (bits .or .u8 (bits .and .u8 fl 64) 32), .int .u32 cmd, .int .u32 app, .int .u32 hop, .int .u32 ete, .slice (some ⟨g, 0, none⟩) 7 cap] 37 (0, 0))) := hms.box
  have K3 : Hid (w3.heap[w.heap.size]? = some (.cells #[.int .u8 fl, .int .u32 cmd, .int .u32 app, .int .u32 hop, .int .u32 ete, .bool false, .slice sa sl sc, .string host, .string realm, .string prod, .int .u32 st, .int .u8 i0, .int .u8 i1, .int .u8 i2, .int .u8 i3, .int .u16 port, .slice ia il ic, .slice va vl vc] 28 (0, 0))) := gblockN (gtrans G12.out hg3) K1.out
  have G3 : Hid (w.grownBy w3 none) := gtrans (gtrans G1.out G12.out) hg3
  have GG13 : Hid (w1.grownBy w3 none) := gtrans G12.out hg3
  have QQ : Hid (w3.cell? ⟨g, 0, none⟩ = some (.int .u32 264) ∧ w3.cell? ⟨g, 4, none⟩ = some (.int .u32 296) ∧ w3.cell? ⟨g, 8, none⟩ = some (.int .u32 268) ∧ w3.cell? ⟨g, 9, none⟩ = some (.int .u8 b1.flags) ∧ w3.cell? ⟨g, 10, none⟩ = some (.int .u32 b1.vendor) ∧ w3.cell? ⟨g, 11, none⟩ = some (.slice b1.da 4 b1.dc) ∧ w3.cell? ⟨g, 12, none⟩ = some (.int .u32 257) ∧ w3.cell? ⟨g, 16, none⟩ = some (.int .u32 266) ∧ w3.cell? ⟨g, 17, none⟩ = some (.int .u8 c2.flags) ∧ w3.cell? ⟨g, 18, none⟩ = some (.int .u32 c2.vendor) ∧ w3.cell? ⟨g, 19, none⟩ = some (.slice c2.da 4 c2.dc) ∧ w3.cell? ⟨g, 20, none⟩ = some (.int .u32 269) ∧ w3.cell? ⟨g, 24, none⟩ = some (.int .u32 278) ∧ w3.cell? ⟨g, 25, none⟩ = some (.int .u8 c4.flags) ∧ w3.cell? ⟨g, 26, none⟩ = some (.int .u32 c4.vendor) ∧ w3.cell? ⟨g, 27, none⟩ = some (.slice c4.da 4 c4.dc)) := ⟨(by have h := cellsAt CC.out 0 _ rfl; rw [ha1] at h; exact h), (by have h := cellsAt CC.out 4 _ rfl; rw [ha2] at h; exact h), (by have h := cellsAt CC.out 8 _ rfl; rw [hbc] at h; exact h), (cellsAt CC.out 9 _ rfl), (cellsAt CC.out 10 _ rfl), (by have h := cellsAt CC.out 11 _ rfl; rw [hbd] at h; exact h), (by have h := cellsAt CC.out 12 _ rfl; rw [hc1] at h; exact h), (by have h := cellsAt CC.out 16 _ rfl; rw [hc2] at h; exact h), (cellsAt CC.out 17 _ rfl), (cellsAt CC.out 18 _ rfl), (by have h := cellsAt CC.out 19 _ rfl; rw [hc2d] at h; exact h), (by have h := cellsAt CC.out 20 _ rfl; rw [hc3] at h; exact h), (by have h := cellsAt CC.out 24 _ rfl; rw [hc4] at h; exact h), (cellsAt CC.out 25 _ rfl), (cellsAt CC.out 26 _ rfl), (by have h := cellsAt CC.out 27 _ rfl; rw [hc4d] at h; exact h)⟩
  have UU : Hid (U8s w3 b1.da 4 (be32 r) ∧ U8s w3 c2.da 4 (be32 0) ∧ U8s w3 c4.da 4 (be32 st)) := ⟨hbu, hc2u, hc4u⟩
  clear hms ha1 ha2 hb1 hb2 hr1 hr2 hc1 hc2 hc2d hc2u hc3 hc4 hc4d hc4u hg3 hsv hcells CC hbc hbd hbu SR1 M1 K1 GL2 E2 
  have RB3 : Hid (w3.rangeAt w.heap.size 0 [.int .u8 fl, .int .u32 cmd, .int .u32 app, .int .u32 hop, .int .u32 ete, .bool false, .slice sa sl sc, .string host, .string realm, .string prod, .int .u32 st, .int .u8 i0, .int .u8 i1, .int .u8 i2, .int .u8 i3, .int .u16 port, .slice ia il ic, .slice va vl vc] ∧ ([.int .u8 fl, .int .u32 cmd, .int .u32 app, .int .u32 hop, .int .u32 ete, .bool false, .slice sa sl sc, .string host, .string realm, .string prod, .int .u32 st, .int .u8 i0, .int .u8 i1, .int .u8 i2, .int .u8 i3, .int .u16 port, .slice ia il ic, .slice va vl vc] : List Value).length = 18) := ⟨range_block K3.out, rfl⟩
  go_wp2_with (with_reducible refine load28 ?hwa (.tmp 6) rfl w.heap.size ?hxa [.int .u8 fl, .int .u32 cmd, .int .u32 app, .int .u32 hop, .int .u32 ete, .bool false, .slice sa sl sc, .string host, .string realm, .string prod, .int .u32 st, .int .u8 i0, .int .u8 i1, .int .u8 i2, .int .u8 i3, .int .u16 port, .slice ia il ic, .slice va vl vc] RB3.out ?_)
  try (case hwa => rfl)
  try (case hxa => rfl)
  refine (head_any fl cmd app hop ete false sa sl sc host realm prod st i0 i1 i2 i3 port ia il ic va vl vc p (bits .or .u8 (bits .and .u8 fl 64) 32) (.slice (some ⟨g, 0, none⟩) 7 cap) w3 P3.out).mono ?_
  rintro e w4 ⟨rfl, hg4⟩
  have K4 : Hid (w4.heap[w.heap.size]? = some (.cells #[.int .u8 fl, .int .u32 cmd, .int .u32 app, .int .u32 hop, .int .u32 ete, .bool false, .slice sa sl sc, .string host, .string realm, .string prod, .int .u32 st, .int .u8 i0, .int .u8 i1, .int .u8 i2, .int .u8 i3, .int .u16 port, .slice ia il ic, .slice va vl vc] 28 (0, 0))) := gblockN hg4 K3.out
  have P4 : Hid (w4.heap[p]? = some (.cells #[.int .u8 (bits .or .u8 (bits .and .u8 fl 64) 32), .int .u32 cmd, .int .u32 app, .int .u32 hop, .int .u32 ete, .slice (some ⟨g, 0, none⟩) 7 cap] 37 (0, 0))) := gblockN hg4 P3.out
  have G34 : Hid (w3.grownBy w4 none) := hg4
  have d0 : w4.cell? ⟨w.heap.size, 0, none⟩ = some (.int .u8 fl) := cellOf K4.out
  have d1 : w4.cell? ⟨p, 0, none⟩ = some (.int .u8 (bits .or .u8 (bits .and .u8 fl 64) 32)) := cellOf P4.out
  clear hg4 K3 P3 RB3
  go_wp2_with fail
  clear d0 d1
  refine law_r21 (hin := K4.out) (hp := P4.out) (ix := 0) (res := 2) (hcall := fun w' hg => prefix_none fl cmd app hop ete sa sl sc host realm prod st i0 i1 i2 i3 port ia il ic va vl vc g 7 cap w' (by decide) (gcell (gtrans G34.out hg) QQ.out.1) (gcell (gtrans G34.out hg) QQ.out.2.1)) (hQ := ?_)
  intros
  rename_i w5 hg5
  have G35 : Hid (w3.grownBy w5 none) := gtrans G34.out hg5
  have K5 : Hid (w5.heap[w.heap.size]? = some (.cells #[.int .u8 fl, .int .u32 cmd, .int .u32 app, .int .u32 hop, .int .u32 ete, .bool false, .slice sa sl sc, .string host, .string realm, .string prod, .int .u32 st, .int .u8 i0, .int .u8 i1, .int .u8 i2, .int .u8 i3, .int .u16 port, .slice ia il ic, .slice va vl vc] 28 (0, 0))) := gblockN hg5 K4.out
  have P5 : Hid (w5.heap[p]? = some (.cells #[.int .u8 (bits .or .u8 (bits .and .u8 fl 64) 32), .int .u32 cmd, .int .u32 app, .int .u32 hop, .int .u32 ete, .slice (some ⟨g, 0, none⟩) 7 cap] 37 (0, 0))) := gblockN hg5 P4.out
  have d5 : w5.cell? ⟨p, 5, none⟩ = some (.slice (some ⟨g, 0, none⟩) 7 cap) := cellOf P5.out
  clear hg5 K4 P4
  have e0 : w5.cell? ⟨g, 8, none⟩ = some (.int .u32 268) := gcell G35.out QQ.out.2.2.1
  have e1 : w5.cell? ⟨g, 9, none⟩ = some (.int .u8 b1.flags) := gcell G35.out QQ.out.2.2.2.1
  have e2 : w5.cell? ⟨g, 10, none⟩ = some (.int .u32 b1.vendor) := gcell G35.out QQ.out.2.2.2.2.1
  have e3 : w5.cell? ⟨g, 11, none⟩ = some (.slice b1.da 4 b1.dc) := gcell G35.out QQ.out.2.2.2.2.2.1
  go_wp2_with fail
  refine (u32_ok 268 b1.flags b1.vendor r HRR.out.1.1 HRR.out.1.2 b1.da b1.dc w5 (UU.out.1.grow G35.out)).mono ?_
  rintro e w6 ⟨rfl, hg6⟩
  have G36 : Hid (w3.grownBy w6 none) := gtrans G35.out hg6
  have K6 : Hid (w6.heap[w.heap.size]? = some (.cells #[.int .u8 fl, .int .u32 cmd, .int .u32 app, .int .u32 hop, .int .u32 ete, .bool false, .slice sa sl sc, .string host, .string realm, .string prod, .int .u32 st, .int .u8 i0, .int .u8 i1, .int .u8 i2, .int .u8 i3, .int .u16 port, .slice ia il ic, .slice va vl vc] 28 (0, 0))) := gblockN hg6 K5.out
  have P6 : Hid (w6.heap[p]? = some (.cells #[.int .u8 (bits .or .u8 (bits .and .u8 fl 64) 32), .int .u32 cmd, .int .u32 app, .int .u32 hop, .int .u32 ete, .slice (some ⟨g, 0, none⟩) 7 cap] 37 (0, 0))) := gblockN hg6 P5.out
  have d6 : w6.cell? ⟨p, 5, none⟩ = some (.slice (some ⟨g, 0, none⟩) 7 cap) := cellOf P6.out
  clear hg6 K5 P5 d5 e0 e1 e2 e3
  go_wp2_with fail
  clear d6
  refine law_r34 (hin := K6.out) (hp := P6.out) (ix := 3) (res := 7) (hcall := fun w' hg => tail_3 fl cmd app hop ete false sa sl sc host realm prod st i0 i1 i2 i3 port ia il ic va vl vc g 7 cap c2.flags c2.vendor c4.flags c4.vendor c2.da c4.da c2.dc c4.dc w' (by decide) HST.out.1 HST.out.2 (gcell (gtrans G36.out hg) QQ.out.2.2.2.2.2.2.1) (gcell (gtrans G36.out hg) QQ.out.2.2.2.2.2.2.2.1) (gcell (gtrans G36.out hg) QQ.out.2.2.2.2.2.2.2.2.1) (gcell (gtrans G36.out hg) QQ.out.2.2.2.2.2.2.2.2.2.1) (gcell (gtrans G36.out hg) QQ.out.2.2.2.2.2.2.2.2.2.2.1) (gcell (gtrans G36.out hg) QQ.out.2.2.2.2.2.2.2.2.2.2.2.1) (gcell (gtrans G36.out hg) QQ.out.2.2.2.2.2.2.2.2.2.2.2.2.1) (gcell (gtrans G36.out hg) QQ.out.2.2.2.2.2.2.2.2.2.2.2.2.2.1) (gcell (gtrans G36.out hg) QQ.out.2.2.2.2.2.2.2.2.2.2.2.2.2.2.1) (gcell (gtrans G36.out hg) QQ.out.2.2.2.2.2.2.2.2.2.2.2.2.2.2.2) (UU.out.2.1.grow (gtrans G36.out hg)) (UU.out.2.2.grow (gtrans G36.out hg))) (hQ := ?_)
  intros
  rename_i w7 hg7
  have G7 : Hid (w.grownBy w7 none) := gtrans G3.out (gtrans G36.out hg7)
  have d7 : w7.cell? ⟨p, 5, none⟩ = some (.slice (some ⟨g, 0, none⟩) 7 cap) := cellOf (gblockN hg7 P6.out)
  clear hg7 K6 P6
  go_wp2
  go_ret
  exact ⟨rfl, G7.out⟩

set_option maxHeartbeats 6400000 in
theorem law_3_FT (fl cmd app hop ete : Int) (sa : Option Addr) (sl sc : Nat) (host realm prod : ByteArray) (st i0 i1 i2 i3 port : Int) (ia : Option Addr) (il ic : Nat) (va : Option Addr) (vl vc : Nat) (kind r fc : Int) (ids vends sid : List Int) (nm : Nat → ByteArray) (z : Addr) (w : World) (hG : Globs w nm z) (hil : il ≤ 1024) (hvl : vl ≤ 1024) (hsl : sl ≤ 1024)
    (hI : IsRow .u32 w ia il ic ids) (hV : IsRow .u32 w va vl vc vends) (hSd : IsRow .u8 w sa sl sc sid) (hst0 : 0 ≤ st) (hst1 : st < 4294967296)
    (hr : (0 ≤ i0 ∧ i0 ≤ 255) ∧ (0 ≤ i1 ∧ i1 ≤ 255) ∧ (0 ≤ i2 ∧ i2 ≤ 255) ∧ (0 ≤ i3 ∧ i3 ≤ 255)) (hr0 : 0 ≤ r) (hr1 : r < 4294967296) (hf0 : 0 ≤ fc) (hf1 : fc < 4294967296) (hk0 : 0 ≤ kind) (hk : kind % 2 ≠ 0) (hq : r / 1000 = 3) :
    Calls Ybad.prog 4 #[.agg #[.int .u8 fl, .int .u32 cmd, .int .u32 app, .int .u32 hop, .int .u32 ete, .bool false, .slice sa sl sc, .string host, .string realm, .string prod, .int .u32 st, .int .u8 i0, .int .u8 i1, .int .u8 i2, .int .u8 i3, .int .u16 port, .slice ia il ic, .slice va vl vc], .int .u8 kind, .int .u32 r, .int .u32 0, .bool true, .int .u32 fc] w fun e w' => e = .returned (.bool true) ∧ w.grownBy w' none := by
  have GL : Hid (Globs w nm z) := hG
  have HI : Hid (IsRow .u32 w ia il ic ids ∧ IsRow .u32 w va vl vc vends ∧ IsRow .u8 w sa sl sc sid) := ⟨hI, hV, hSd⟩
  have HR : Hid ((0 ≤ i0 ∧ i0 ≤ 255) ∧ (0 ≤ i1 ∧ i1 ≤ 255) ∧ (0 ≤ i2 ∧ i2 ≤ 255) ∧ (0 ≤ i3 ∧ i3 ≤ 255)) := hr
  have HL : Hid (il ≤ 1024 ∧ vl ≤ 1024 ∧ sl ≤ 1024) := ⟨hil, hvl, hsl⟩
  have HST : Hid (0 ≤ st ∧ st < 4294967296) := ⟨hst0, hst1⟩
  have HRR : Hid ((0 ≤ r ∧ r < 4294967296) ∧ (0 ≤ fc ∧ fc < 4294967296)) := ⟨⟨hr0, hr1⟩, ⟨hf0, hf1⟩⟩
  have HQ : Hid (r / 1000 = 3) := hq
  have hqd : r.tdiv 1000 = 3 := by rw [Int.tdiv_eq_ediv_of_nonneg hr0]; exact hq
  clear hq
  have l1 : ¬ (1024 : Int) < (il : Int) := by omega
  have l2 : ¬ (1024 : Int) < (vl : Int) := by omega
  have l3 : ¬ (1024 : Int) < (sl : Int) := by omega
  have hkd : kind.tmod 2 ≠ 0 := by rw [Int.tmod_eq_emod_of_nonneg hk0]; exact hk
  have c16 : (w.alloc (.cells #[.int .u8 fl, .int .u32 cmd, .int .u32 app, .int .u32 hop, .int .u32 ete, .bool false, .slice sa sl sc, .string host, .string realm, .string prod, .int .u32 st, .int .u8 i0, .int .u8 i1, .int .u8 i2, .int .u8 i3, .int .u16 port, .slice ia il ic, .slice va vl vc] 28)).cell? ⟨w.heap.size, 16, none⟩ = some (.slice ia il ic) := cellOf (heap_alloc_new _ _)
  have c17 : (w.alloc (.cells #[.int .u8 fl, .int .u32 cmd, .int .u32 app, .int .u32 hop, .int .u32 ete, .bool false, .slice sa sl sc, .string host, .string realm, .string prod, .int .u32 st, .int .u8 i0, .int .u8 i1, .int .u8 i2, .int .u8 i3, .int .u16 port, .slice ia il ic, .slice va vl vc] 28)).cell? ⟨w.heap.size, 17, none⟩ = some (.slice va vl vc) := cellOf (heap_alloc_new _ _)
  have c6 : (w.alloc (.cells #[.int .u8 fl, .int .u32 cmd, .int .u32 app, .int .u32 hop, .int .u32 ete, .bool false, .slice sa sl sc, .string host, .string realm, .string prod, .int .u32 st, .int .u8 i0, .int .u8 i1, .int .u8 i2, .int .u8 i3, .int .u16 port, .slice ia il ic, .slice va vl vc] 28)).cell? ⟨w.heap.size, 6, none⟩ = some (.slice sa sl sc) := cellOf (heap_alloc_new _ _)
  clear hG hI hV hSd hr hil hvl hsl hst0 hst1 hr0 hr1 hf0 hf1 hk0 hk
  go_enter Ybad.func4, Ybad.ntmps4
  have RB : Hid ((w.alloc (.cells #[.int .u8 fl, .int .u32 cmd, .int .u32 app, .int .u32 hop, .int .u32 ete, .bool false, .slice sa sl sc, .string host, .string realm, .string prod, .int .u32 st, .int .u8 i0, .int .u8 i1, .int .u8 i2, .int .u8 i3, .int .u16 port, .slice ia il ic, .slice va vl vc] 28)).rangeAt w.heap.size 0 [.int .u8 fl, .int .u32 cmd, .int .u32 app, .int .u32 hop, .int .u32 ete, .bool false, .slice sa sl sc, .string host, .string realm, .string prod, .int .u32 st, .int .u8 i0, .int .u8 i1, .int .u8 i2, .int .u8 i3, .int .u16 port, .slice ia il ic, .slice va vl vc] ∧ ([.int .u8 fl, .int .u32 cmd, .int .u32 app, .int .u32 hop, .int .u32 ete, .bool false, .slice sa sl sc, .string host, .string realm, .string prod, .int .u32 st, .int .u8 i0, .int .u8 i1, .int .u8 i2, .int .u8 i3, .int .u16 port, .slice ia il ic, .slice va vl vc] : List Value).length = 18) := ⟨range_block (heap_alloc_new _ _), rfl⟩
  go_wp2_with (with_reducible refine load28 ?hw (.tmp 6) rfl w.heap.size ?hx [.int .u8 fl, .int .u32 cmd, .int .u32 app, .int .u32 hop, .int .u32 ete, .bool false, .slice sa sl sc, .string host, .string realm, .string prod, .int .u32 st, .int .u8 i0, .int .u8 i1, .int .u8 i2, .int .u8 i3, .int .u16 port, .slice ia il ic, .slice va vl vc] RB.out ?_)
  try (case hw => rfl)
  try (case hx => rfl)
  go_wp2_with fail
  obtain ⟨W0, hW0⟩ : ∃ W0, W0 = w.alloc (.cells #[.int .u8 fl, .int .u32 cmd, .int .u32 app, .int .u32 hop, .int .u32 ete, .bool false, .slice sa sl sc, .string host, .string realm, .string prod, .int .u32 st, .int .u8 i0, .int .u8 i1, .int .u8 i2, .int .u8 i3, .int .u16 port, .slice ia il ic, .slice va vl vc] 28) := ⟨_, rfl⟩
  rw [← hW0]
  have G0 : Hid (w.grownBy W0 none) := by show w.grownBy W0 none; rw [hW0]; exact World.grownBy_alloc _ _ _
  have K0 : Hid (W0.heap[w.heap.size]? = some (.cells #[.int .u8 fl, .int .u32 cmd, .int .u32 app, .int .u32 hop, .int .u32 ete, .bool false, .slice sa sl sc, .string host, .string realm, .string prod, .int .u32 st, .int .u8 i0, .int .u8 i1, .int .u8 i2, .int .u8 i3, .int .u16 port, .slice ia il ic, .slice va vl vc] 28 (0, 0))) := by show W0.heap[w.heap.size]? = _; rw [hW0]; exact heap_alloc_new _ _
  clear hW0 c16 c17 c6 l1 l2 l3 RB
  refine (build_any fl cmd app hop ete false sa sl sc host realm prod st i0 i1 i2 i3 port ia il ic va vl vc ids vends sid z W0 HL.out.1 HL.out.2.1 HL.out.2.2 (isRow_grow HI.out.1 G0.out) (isRow_grow HI.out.2.1 G0.out) (isRow_grow HI.out.2.2 G0.out) (GL.out.grow G0.out).zs HR.out).mono ?_
  rintro e w1 ⟨c, s, m, lo, apps, sq, rfl, hsr, hlo, hmb, hown, hg1, hw0, hw1⟩
  have SR1 : Hid (Srv w1 c s host realm prod st lo port z apps) := hsr
  have LO : Hid (0 ≤ lo ∧ lo < 18446744073709551616) := by have := bounds_u64 hlo; exact ⟨this.1, by have := this.2; omega⟩
  have M1 : Hid (w1.heap[m]? = some (.cells #[.int .u8 fl, .int .u32 cmd, .int .u32 app, .int .u32 hop, .int .u32 ete, sq] 37 (0, 0))) := hmb
  have G1 : Hid (w.grownBy w1 none) := gtrans G0.out hg1
  have K1 : Hid (w1.heap[w.heap.size]? = some (.cells #[.int .u8 fl, .int .u32 cmd, .int .u32 app, .int .u32 hop, .int .u32 ete, .bool false, .slice sa sl sc, .string host, .string realm, .string prod, .int .u32 st, .int .u8 i0, .int .u8 i1, .int .u8 i2, .int .u8 i3, .int .u16 port, .slice ia il ic, .slice va vl vc] 28 (0, 0))) := gblockN hg1 K0.out
  obtain ⟨bq, capq, hsq, hcq⟩ := hw0 rfl
  have CQ : Hid (∀ j u, [Value.int .u32 1, .int .u8 0, .int .u32 0, .slice none 0 0][j]? = some u → w1.cell? ((⟨bq, 0, none⟩ : Addr).add j) = some u) := hcq
  subst hsq
  clear hsr hlo hmb hown hg1 hw0 hw1 hcq G0 K0
  go_wp2_with fail
  obtain ⟨w2, hw2⟩ : ∃ w2, w2 = (w1.alloc (.cells #[.int .u32 r, .int .u32 0, .pointer (some ⟨w1.heap.size + 1, 0, none⟩)] 51)).alloc (.cells #[.int .u32 fc, .int .u8 0, .int .u32 0, .slice none 0 0] 41) := ⟨_, rfl⟩
  rw [← hw2]
  have G12 : Hid (w1.grownBy w2 none) := by
    show w1.grownBy w2 none
    rw [hw2]
    exact gtrans (World.grownBy_alloc _ _ _) (World.grownBy_alloc _ _ _)
  have E2 : Hid (w2.heap[w1.heap.size]? = some (.cells #[.int .u32 r, .int .u32 0, .pointer (some ⟨w1.heap.size + 1, 0, none⟩)] 51 (0, 0))) := by
    show w2.heap[w1.heap.size]? = some (.cells #[.int .u32 r, .int .u32 0, .pointer (some ⟨w1.heap.size + 1, 0, none⟩)] 51 (0, 0))
    rw [hw2]
    exact gblockN (World.grownBy_alloc _ _ _) (heap_alloc_new _ _)
  have F2 : Hid (w2.heap[w1.heap.size + 1]? = some (.cells #[.int .u32 fc, .int .u8 0, .int .u32 0, .slice none 0 0] 41 (0, 0))) := by
    show w2.heap[w1.heap.size + 1]? = some (.cells #[.int .u32 fc, .int .u8 0, .int .u32 0, .slice none 0 0] 41 (0, 0))
    rw [hw2]
    have := heap_alloc_new (w1.alloc (.cells #[.int .u32 r, .int .u32 0, .pointer (some ⟨w1.heap.size + 1, 0, none⟩)] 51)) (.cells #[.int .u32 fc, .int .u8 0, .int .u32 0, .slice none 0 0] 41)
    simpa using this
  clear hw2
  have GL2 : Hid (Globs w2 nm z) := GL.out.grow (gtrans G1.out G12.out)
  refine (cea_fail c s m host realm prod st lo port apps 48 _ fl cmd app hop ete _ (⟨0, 0, 0, none, 0, 0⟩ : Av) false [] r 0 true w2 nm z (by exact rfl) (by simp) (SR1.out.grow G12.out) LO.out.1 LO.out.2 HST.out.1 HST.out.2 (gblockN G12.out M1.out) GL2.out
    (fun w' hg0 => by have hg := gtrans G12.out hg0; exact (find_one bq capq (nm 6) true 1 w' (gcell hg (cellsAt CQ.out 0 _ rfl)) (gcell hg (cellsAt CQ.out 1 _ rfl)) (gcell hg (cellsAt CQ.out 2 _ rfl)) (gcell hg (cellsAt CQ.out 3 _ rfl)))) (fun w1' p fl' sv avs hg hms hn => fail_3_some w1' _ p fl' cmd app hop ete sv avs nm z w1.heap.size r (w1.heap.size + 1) fc  hms ((GL.out.grow (gtrans G1.out G12.out)).grow hg) (Nat.le_trans GL.out.big (gtrans G1.out G12.out).size) hn HRR.out.1.1 HRR.out.1.2 (gblockN hg E2.out) HQ.out (gblockN hg F2.out) (lt_of_block F2.out) HRR.out.2.1 HRR.out.2.2)).mono ?_
  rintro e w3 ⟨p, sv, a1, a2, b1, rest, c1, c2, c3, c4, rfl, hms, ha1, ha2, hb1, hb2, hr1, hr2, hc1, hc2, hc2d, hc2u, hc3, hc4, hc4d, hc4u, hg3⟩
  obtain ⟨x1, hrest, hx1⟩ := hr2 rfl
  subst hrest
  rw [if_pos ⟨rfl, HQ.out⟩] at hms
  obtain ⟨hbc, hbd, hbu⟩ := hb2 rfl
  obtain ⟨g, cap, hsv, hcells⟩ := own_cells hms.row (by simp)
  have hsv2 : sv = .slice (some ⟨g, 0, none⟩) 8 cap := hsv
  subst hsv2
  have CC : Hid (∀ j u, (flat [a1, a2, b1, x1, c1, c2, c3, c4])[j]? = some u → w3.cell? ((⟨g, 0, none⟩ : Addr).add j) = some u) := hcells
  have P3 : Hid (w3.heap[p]? = some (.cells #[.int .u8 (bits .or .u8 (bits .and .u8 fl 64) 32), .int .u32 cmd, .int .u32 app, .int .u32 hop, .int .u32 ete, .slice (some ⟨g, 0, none⟩) 8 cap] 37 (0, 0))) := hms.box
  have K3 : Hid (w3.heap[w.heap.size]? = some (.cells #[.int .u8 fl, .int .u32 cmd, .int .u32 app, .int .u32 hop, .int .u32 ete, .bool false, .slice sa sl sc, .string host, .string realm, .string prod, .int .u32 st, .int .u8 i0, .int .u8 i1, .int .u8 i2, .int .u8 i3, .int .u16 port, .slice ia il ic, .slice va vl vc] 28 (0, 0))) := gblockN (gtrans G12.out hg3) K1.out
  have G3 : Hid (w.grownBy w3 none) := gtrans (gtrans G1.out G12.out) hg3
  have GG13 : Hid (w1.grownBy w3 none) := gtrans G12.out hg3
  have QQ : Hid (w3.cell? ⟨g, 0, none⟩ = some (.int .u32 264) ∧ w3.cell? ⟨g, 4, none⟩ = some (.int .u32 296) ∧ w3.cell? ⟨g, 8, none⟩ = some (.int .u32 268) ∧ w3.cell? ⟨g, 9, none⟩ = some (.int .u8 b1.flags) ∧ w3.cell? ⟨g, 10, none⟩ = some (.int .u32 b1.vendor) ∧ w3.cell? ⟨g, 11, none⟩ = some (.slice b1.da 4 b1.dc) ∧ w3.cell? ⟨g, 12, none⟩ = some (.int .u32 279) ∧ w3.cell? ⟨g, 16, none⟩ = some (.int .u32 257) ∧ w3.cell? ⟨g, 20, none⟩ = some (.int .u32 266) ∧ w3.cell? ⟨g, 21, none⟩ = some (.int .u8 c2.flags) ∧ w3.cell? ⟨g, 22, none⟩ = some (.int .u32 c2.vendor) ∧ w3.cell? ⟨g, 23, none⟩ = some (.slice c2.da 4 c2.dc) ∧ w3.cell? ⟨g, 24, none⟩ = some (.int .u32 269) ∧ w3.cell? ⟨g, 28, none⟩ = some (.int .u32 278) ∧ w3.cell? ⟨g, 29, none⟩ = some (.int .u8 c4.flags) ∧ w3.cell? ⟨g, 30, none⟩ = some (.int .u32 c4.vendor) ∧ w3.cell? ⟨g, 31, none⟩ = some (.slice c4.da 4 c4.dc)) := ⟨(by have h := cellsAt CC.out 0 _ rfl; rw [ha1] at h; exact h), (by have h := cellsAt CC.out 4 _ rfl; rw [ha2] at h; exact h), (by have h := cellsAt CC.out 8 _ rfl; rw [hbc] at h; exact h), (cellsAt CC.out 9 _ rfl), (cellsAt CC.out 10 _ rfl), (by have h := cellsAt CC.out 11 _ rfl; rw [hbd] at h; exact h), (by have h := cellsAt CC.out 12 _ rfl; rw [hx1] at h; exact h), (by have h := cellsAt CC.out 16 _ rfl; rw [hc1] at h; exact h), (by have h := cellsAt CC.out 20 _ rfl; rw [hc2] at h; exact h), (cellsAt CC.out 21 _ rfl), (cellsAt CC.out 22 _ rfl), (by have h := cellsAt CC.out 23 _ rfl; rw [hc2d] at h; exact h), (by have h := cellsAt CC.out 24 _ rfl; rw [hc3] at h; exact h), (by have h := cellsAt CC.out 28 _ rfl; rw [hc4] at h; exact h), (cellsAt CC.out 29 _ rfl), (cellsAt CC.out 30 _ rfl), (by have h := cellsAt CC.out 31 _ rfl; rw [hc4d] at h; exact h)⟩
  have UU : Hid (U8s w3 b1.da 4 (be32 r) ∧ U8s w3 c2.da 4 (be32 0) ∧ U8s w3 c4.da 4 (be32 st)) := ⟨hbu, hc2u, hc4u⟩
  clear hms ha1 ha2 hb1 hb2 hr1 hr2 hc1 hc2 hc2d hc2u hc3 hc4 hc4d hc4u hg3 hsv hcells CC hbc hx1 hbd hbu SR1 M1 K1 GL2 E2 F2 
  have RB3 : Hid (w3.rangeAt w.heap.size 0 [.int .u8 fl, .int .u32 cmd, .int .u32 app, .int .u32 hop, .int .u32 ete, .bool false, .slice sa sl sc, .string host, .string realm, .string prod, .int .u32 st, .int .u8 i0, .int .u8 i1, .int .u8 i2, .int .u8 i3, .int .u16 port, .slice ia il ic, .slice va vl vc] ∧ ([.int .u8 fl, .int .u32 cmd, .int .u32 app, .int .u32 hop, .int .u32 ete, .bool false, .slice sa sl sc, .string host, .string realm, .string prod, .int .u32 st, .int .u8 i0, .int .u8 i1, .int .u8 i2, .int .u8 i3, .int .u16 port, .slice ia il ic, .slice va vl vc] : List Value).length = 18) := ⟨range_block K3.out, rfl⟩
  go_wp2_with (with_reducible refine load28 ?hwa (.tmp 6) rfl w.heap.size ?hxa [.int .u8 fl, .int .u32 cmd, .int .u32 app, .int .u32 hop, .int .u32 ete, .bool false, .slice sa sl sc, .string host, .string realm, .string prod, .int .u32 st, .int .u8 i0, .int .u8 i1, .int .u8 i2, .int .u8 i3, .int .u16 port, .slice ia il ic, .slice va vl vc] RB3.out ?_)
  try (case hwa => rfl)
  try (case hxa => rfl)
  refine (head_any fl cmd app hop ete false sa sl sc host realm prod st i0 i1 i2 i3 port ia il ic va vl vc p (bits .or .u8 (bits .and .u8 fl 64) 32) (.slice (some ⟨g, 0, none⟩) 8 cap) w3 P3.out).mono ?_
  rintro e w4 ⟨rfl, hg4⟩
  have K4 : Hid (w4.heap[w.heap.size]? = some (.cells #[.int .u8 fl, .int .u32 cmd, .int .u32 app, .int .u32 hop, .int .u32 ete, .bool false, .slice sa sl sc, .string host, .string realm, .string prod, .int .u32 st, .int .u8 i0, .int .u8 i1, .int .u8 i2, .int .u8 i3, .int .u16 port, .slice ia il ic, .slice va vl vc] 28 (0, 0))) := gblockN hg4 K3.out
  have P4 : Hid (w4.heap[p]? = some (.cells #[.int .u8 (bits .or .u8 (bits .and .u8 fl 64) 32), .int .u32 cmd, .int .u32 app, .int .u32 hop, .int .u32 ete, .slice (some ⟨g, 0, none⟩) 8 cap] 37 (0, 0))) := gblockN hg4 P3.out
  have G34 : Hid (w3.grownBy w4 none) := hg4
  have d0 : w4.cell? ⟨w.heap.size, 0, none⟩ = some (.int .u8 fl) := cellOf K4.out
  have d1 : w4.cell? ⟨p, 0, none⟩ = some (.int .u8 (bits .or .u8 (bits .and .u8 fl 64) 32)) := cellOf P4.out
  clear hg4 K3 P3 RB3
  go_wp2_with fail
  clear d0 d1
  refine law_r21 (hin := K4.out) (hp := P4.out) (ix := 0) (res := 2) (hcall := fun w' hg => prefix_none fl cmd app hop ete sa sl sc host realm prod st i0 i1 i2 i3 port ia il ic va vl vc g 8 cap w' (by decide) (gcell (gtrans G34.out hg) QQ.out.1) (gcell (gtrans G34.out hg) QQ.out.2.1)) (hQ := ?_)
  intros
  rename_i w5 hg5
  have G35 : Hid (w3.grownBy w5 none) := gtrans G34.out hg5
  have K5 : Hid (w5.heap[w.heap.size]? = some (.cells #[.int .u8 fl, .int .u32 cmd, .int .u32 app, .int .u32 hop, .int .u32 ete, .bool false, .slice sa sl sc, .string host, .string realm, .string prod, .int .u32 st, .int .u8 i0, .int .u8 i1, .int .u8 i2, .int .u8 i3, .int .u16 port, .slice ia il ic, .slice va vl vc] 28 (0, 0))) := gblockN hg5 K4.out
  have P5 : Hid (w5.heap[p]? = some (.cells #[.int .u8 (bits .or .u8 (bits .and .u8 fl 64) 32), .int .u32 cmd, .int .u32 app, .int .u32 hop, .int .u32 ete, .slice (some ⟨g, 0, none⟩) 8 cap] 37 (0, 0))) := gblockN hg5 P4.out
  have d5 : w5.cell? ⟨p, 5, none⟩ = some (.slice (some ⟨g, 0, none⟩) 8 cap) := cellOf P5.out
  clear hg5 K4 P4
  have e0 : w5.cell? ⟨g, 8, none⟩ = some (.int .u32 268) := gcell G35.out QQ.out.2.2.1
  have e1 : w5.cell? ⟨g, 9, none⟩ = some (.int .u8 b1.flags) := gcell G35.out QQ.out.2.2.2.1
  have e2 : w5.cell? ⟨g, 10, none⟩ = some (.int .u32 b1.vendor) := gcell G35.out QQ.out.2.2.2.2.1
  have e3 : w5.cell? ⟨g, 11, none⟩ = some (.slice b1.da 4 b1.dc) := gcell G35.out QQ.out.2.2.2.2.2.1
  go_wp2_with fail
  refine (u32_ok 268 b1.flags b1.vendor r HRR.out.1.1 HRR.out.1.2 b1.da b1.dc w5 (UU.out.1.grow G35.out)).mono ?_
  rintro e w6 ⟨rfl, hg6⟩
  have G36 : Hid (w3.grownBy w6 none) := gtrans G35.out hg6
  have K6 : Hid (w6.heap[w.heap.size]? = some (.cells #[.int .u8 fl, .int .u32 cmd, .int .u32 app, .int .u32 hop, .int .u32 ete, .bool false, .slice sa sl sc, .string host, .string realm, .string prod, .int .u32 st, .int .u8 i0, .int .u8 i1, .int .u8 i2, .int .u8 i3, .int .u16 port, .slice ia il ic, .slice va vl vc] 28 (0, 0))) := gblockN hg6 K5.out
  have P6 : Hid (w6.heap[p]? = some (.cells #[.int .u8 (bits .or .u8 (bits .and .u8 fl 64) 32), .int .u32 cmd, .int .u32 app, .int .u32 hop, .int .u32 ete, .slice (some ⟨g, 0, none⟩) 8 cap] 37 (0, 0))) := gblockN hg6 P5.out
  have d6 : w6.cell? ⟨p, 5, none⟩ = some (.slice (some ⟨g, 0, none⟩) 8 cap) := cellOf P6.out
  have e4 : w6.cell? ⟨g, 12, none⟩ = some (.int .u32 279) := gcell G36.out QQ.out.2.2.2.2.2.2.1
  clear hg6 K5 P5 d5 e0 e1 e2 e3
  go_wp2_with fail
  clear d6 e4
  refine law_r34 (hin := K6.out) (hp := P6.out) (ix := 4) (res := 8) (hcall := fun w' hg => tail_4 fl cmd app hop ete false sa sl sc host realm prod st i0 i1 i2 i3 port ia il ic va vl vc g 8 cap c2.flags c2.vendor c4.flags c4.vendor c2.da c4.da c2.dc c4.dc w' (by decide) HST.out.1 HST.out.2 (gcell (gtrans G36.out hg) QQ.out.2.2.2.2.2.2.2.1) (gcell (gtrans G36.out hg) QQ.out.2.2.2.2.2.2.2.2.1) (gcell (gtrans G36.out hg) QQ.out.2.2.2.2.2.2.2.2.2.1) (gcell (gtrans G36.out hg) QQ.out.2.2.2.2.2.2.2.2.2.2.1) (gcell (gtrans G36.out hg) QQ.out.2.2.2.2.2.2.2.2.2.2.2.1) (gcell (gtrans G36.out hg) QQ.out.2.2.2.2.2.2.2.2.2.2.2.2.1) (gcell (gtrans G36.out hg) QQ.out.2.2.2.2.2.2.2.2.2.2.2.2.2.1) (gcell (gtrans G36.out hg) QQ.out.2.2.2.2.2.2.2.2.2.2.2.2.2.2.1) (gcell (gtrans G36.out hg) QQ.out.2.2.2.2.2.2.2.2.2.2.2.2.2.2.2.1) (gcell (gtrans G36.out hg) QQ.out.2.2.2.2.2.2.2.2.2.2.2.2.2.2.2.2) (UU.out.2.1.grow (gtrans G36.out hg)) (UU.out.2.2.grow (gtrans G36.out hg))) (hQ := ?_)
  intros
  rename_i w7 hg7
  have G7 : Hid (w.grownBy w7 none) := gtrans G3.out (gtrans G36.out hg7)
  have d7 : w7.cell? ⟨p, 5, none⟩ = some (.slice (some ⟨g, 0, none⟩) 8 cap) := cellOf (gblockN hg7 P6.out)
  clear hg7 K6 P6
  go_wp2
  go_ret
  exact ⟨rfl, G7.out⟩

set_option maxHeartbeats 6400000 in
theorem law_3_TF (fl cmd app hop ete : Int) (sa : Option Addr) (sl sc : Nat) (host realm prod : ByteArray) (st i0 i1 i2 i3 port : Int) (ia : Option Addr) (il ic : Nat) (va : Option Addr) (vl vc : Nat) (kind r fc : Int) (ids vends sid : List Int) (nm : Nat → ByteArray) (z : Addr) (w : World) (hG : Globs w nm z) (hil : il ≤ 1024) (hvl : vl ≤ 1024) (hsl : sl ≤ 1024)
    (hI : IsRow .u32 w ia il ic ids) (hV : IsRow .u32 w va vl vc vends) (hSd : IsRow .u8 w sa sl sc sid) (hst0 : 0 ≤ st) (hst1 : st < 4294967296)
    (hr : (0 ≤ i0 ∧ i0 ≤ 255) ∧ (0 ≤ i1 ∧ i1 ≤ 255) ∧ (0 ≤ i2 ∧ i2 ≤ 255) ∧ (0 ≤ i3 ∧ i3 ≤ 255)) (hr0 : 0 ≤ r) (hr1 : r < 4294967296) (hf0 : 0 ≤ fc) (hf1 : fc < 4294967296) (hk0 : 0 ≤ kind) (hk : kind % 2 ≠ 0) (hq : r / 1000 = 3) :
    Calls Ybad.prog 4 #[.agg #[.int .u8 fl, .int .u32 cmd, .int .u32 app, .int .u32 hop, .int .u32 ete, .bool true, .slice sa sl sc, .string host, .string realm, .string prod, .int .u32 st, .int .u8 i0, .int .u8 i1, .int .u8 i2, .int .u8 i3, .int .u16 port, .slice ia il ic, .slice va vl vc], .int .u8 kind, .int .u32 r, .int .u32 0, .bool false, .int .u32 fc] w fun e w' => e = .returned (.bool true) ∧ w.grownBy w' none := by
  have GL : Hid (Globs w nm z) := hG
  have HI : Hid (IsRow .u32 w ia il ic ids ∧ IsRow .u32 w va vl vc vends ∧ IsRow .u8 w sa sl sc sid) := ⟨hI, hV, hSd⟩
  have HR : Hid ((0 ≤ i0 ∧ i0 ≤ 255) ∧ (0 ≤ i1 ∧ i1 ≤ 255) ∧ (0 ≤ i2 ∧ i2 ≤ 255) ∧ (0 ≤ i3 ∧ i3 ≤ 255)) := hr
  have HL : Hid (il ≤ 1024 ∧ vl ≤ 1024 ∧ sl ≤ 1024) := ⟨hil, hvl, hsl⟩
  have HST : Hid (0 ≤ st ∧ st < 4294967296) := ⟨hst0, hst1⟩
  have HRR : Hid ((0 ≤ r ∧ r < 4294967296) ∧ (0 ≤ fc ∧ fc < 4294967296)) := ⟨⟨hr0, hr1⟩, ⟨hf0, hf1⟩⟩
  have HQ : Hid (r / 1000 = 3) := hq
  have hqd : r.tdiv 1000 = 3 := by rw [Int.tdiv_eq_ediv_of_nonneg hr0]; exact hq
  clear hq
  have l1 : ¬ (1024 : Int) < (il : Int) := by omega
  have l2 : ¬ (1024 : Int) < (vl : Int) := by omega
  have l3 : ¬ (1024 : Int) < (sl : Int) := by omega
  have hkd : kind.tmod 2 ≠ 0 := by rw [Int.tmod_eq_emod_of_nonneg hk0]; exact hk
  have c16 : (w.alloc (.cells #[.int .u8 fl, .int .u32 cmd, .int .u32 app, .int .u32 hop, .int .u32 ete, .bool true, .slice sa sl sc, .string host, .string realm, .string prod, .int .u32 st, .int .u8 i0, .int .u8 i1, .int .u8 i2, .int .u8 i3, .int .u16 port, .slice ia il ic, .slice va vl vc] 28)).cell? ⟨w.heap.size, 16, none⟩ = some (.slice ia il ic) := cellOf (heap_alloc_new _ _)
  have c17 : (w.alloc (.cells #[.int .u8 fl, .int .u32 cmd, .int .u32 app, .int .u32 hop, .int .u32 ete, .bool true, .slice sa sl sc, .string host, .string realm, .string prod, .int .u32 st, .int .u8 i0, .int .u8 i1, .int .u8 i2, .int .u8 i3, .int .u16 port, .slice ia il ic, .slice va vl vc] 28)).cell? ⟨w.heap.size, 17, none⟩ = some (.slice va vl vc) := cellOf (heap_alloc_new _ _)
  have c6 : (w.alloc (.cells #[.int .u8 fl, .int .u32 cmd, .int .u32 app, .int .u32 hop, .int .u32 ete, .bool true, .slice sa sl sc, .string host, .string realm, .string prod, .int .u32 st, .int .u8 i0, .int .u8 i1, .int .u8 i2, .int .u8 i3, .int .u16 port, .slice ia il ic, .slice va vl vc] 28)).cell? ⟨w.heap.size, 6, none⟩ = some (.slice sa sl sc) := cellOf (heap_alloc_new _ _)
  clear hG hI hV hSd hr hil hvl hsl hst0 hst1 hr0 hr1 hf0 hf1 hk0 hk
  go_enter Ybad.func4, Ybad.ntmps4
  have RB : Hid ((w.alloc (.cells #[.int .u8 fl, .int .u32 cmd, .int .u32 app, .int .u32 hop, .int .u32 ete, .bool true, .slice sa sl sc, .string host, .string realm, .string prod, .int .u32 st, .int .u8 i0, .int .u8 i1, .int .u8 i2, .int .u8 i3, .int .u16 port, .slice ia il ic, .slice va vl vc] 28)).rangeAt w.heap.size 0 [.int .u8 fl, .int .u32 cmd, .int .u32 app, .int .u32 hop, .int .u32 ete, .bool true, .slice sa sl sc, .string host, .string realm, .string prod, .int .u32 st, .int .u8 i0, .int .u8 i1, .int .u8 i2, .int .u8 i3, .int .u16 port, .slice ia il ic, .slice va vl vc] ∧ ([.int .u8 fl, .int .u32 cmd, .int .u32 app, .int .u32 hop, .int .u32 ete, .bool true, .slice sa sl sc, .string host, .string realm, .string prod, .int .u32 st, .int .u8 i0, .int .u8 i1, .int .u8 i2, .int .u8 i3, .int .u16 port, .slice ia il ic, .slice va vl vc] : List Value).length = 18) := ⟨range_block (heap_alloc_new _ _), rfl⟩
  go_wp2_with (with_reducible refine load28 ?hw (.tmp 6) rfl w.heap.size ?hx [.int .u8 fl, .int .u32 cmd, .int .u32 app, .int .u32 hop, .int .u32 ete, .bool true, .slice sa sl sc, .string host, .string realm, .string prod, .int .u32 st, .int .u8 i0, .int .u8 i1, .int .u8 i2, .int .u8 i3, .int .u16 port, .slice ia il ic, .slice va vl vc] RB.out ?_)
  try (case hw => rfl)
  try (case hx => rfl)
  go_wp2_with fail
  obtain ⟨W0, hW0⟩ : ∃ W0, W0 = w.alloc (.cells #[.int .u8 fl, .int .u32 cmd, .int .u32 app, .int .u32 hop, .int .u32 ete, .bool true, .slice sa sl sc, .string host, .string realm, .string prod, .int .u32 st, .int .u8 i0, .int .u8 i1, .int .u8 i2, .int .u8 i3, .int .u16 port, .slice ia il ic, .slice va vl vc] 28) := ⟨_, rfl⟩
  rw [← hW0]
  have G0 : Hid (w.grownBy W0 none) := by show w.grownBy W0 none; rw [hW0]; exact World.grownBy_alloc _ _ _
  have K0 : Hid (W0.heap[w.heap.size]? = some (.cells #[.int .u8 fl, .int .u32 cmd, .int .u32 app, .int .u32 hop, .int .u32 ete, .bool true, .slice sa sl sc, .string host, .string realm, .string prod, .int .u32 st, .int .u8 i0, .int .u8 i1, .int .u8 i2, .int .u8 i3, .int .u16 port, .slice ia il ic, .slice va vl vc] 28 (0, 0))) := by show W0.heap[w.heap.size]? = _; rw [hW0]; exact heap_alloc_new _ _
  clear hW0 c16 c17 c6 l1 l2 l3 RB
  refine (build_any fl cmd app hop ete true sa sl sc host realm prod st i0 i1 i2 i3 port ia il ic va vl vc ids vends sid z W0 HL.out.1 HL.out.2.1 HL.out.2.2 (isRow_grow HI.out.1 G0.out) (isRow_grow HI.out.2.1 G0.out) (isRow_grow HI.out.2.2 G0.out) (GL.out.grow G0.out).zs HR.out).mono ?_
  rintro e w1 ⟨c, s, m, lo, apps, sq, rfl, hsr, hlo, hmb, hown, hg1, hw0, hw1⟩
  have SR1 : Hid (Srv w1 c s host realm prod st lo port z apps) := hsr
  have LO : Hid (0 ≤ lo ∧ lo < 18446744073709551616) := by have := bounds_u64 hlo; exact ⟨this.1, by have := this.2; omega⟩
  have M1 : Hid (w1.heap[m]? = some (.cells #[.int .u8 fl, .int .u32 cmd, .int .u32 app, .int .u32 hop, .int .u32 ete, sq] 37 (0, 0))) := hmb
  have G1 : Hid (w.grownBy w1 none) := gtrans G0.out hg1
  have K1 : Hid (w1.heap[w.heap.size]? = some (.cells #[.int .u8 fl, .int .u32 cmd, .int .u32 app, .int .u32 hop, .int .u32 ete, .bool true, .slice sa sl sc, .string host, .string realm, .string prod, .int .u32 st, .int .u8 i0, .int .u8 i1, .int .u8 i2, .int .u8 i3, .int .u16 port, .slice ia il ic, .slice va vl vc] 28 (0, 0))) := gblockN hg1 K0.out
  obtain ⟨bq, capq, daq, dcq, hsq, huq, hcq⟩ := hw1 rfl
  have UQ : Hid (U8s w1 daq sl (sid.take sl)) := huq
  have CQ : Hid (∀ j u, [Value.int .u32 1, .int .u8 0, .int .u32 0, .slice none 0 0, .int .u32 263, .int .u8 0, .int .u32 0, .slice daq sl dcq][j]? = some u → w1.cell? ((⟨bq, 0, none⟩ : Addr).add j) = some u) := hcq
  subst hsq
  clear huq
  clear hsr hlo hmb hown hg1 hw0 hw1 hcq G0 K0
  go_wp2_with fail
  obtain ⟨w2, hw2⟩ : ∃ w2, w2 = w1.alloc (.cells #[.int .u32 r, .int .u32 0, .pointer none] 51) := ⟨_, rfl⟩
  rw [← hw2]
  have G12 : Hid (w1.grownBy w2 none) := by show w1.grownBy w2 none; rw [hw2]; exact World.grownBy_alloc _ _ _
  have E2 : Hid (w2.heap[w1.heap.size]? = some (.cells #[.int .u32 r, .int .u32 0, .pointer none] 51 (0, 0))) := by show w2.heap[w1.heap.size]? = _; rw [hw2]; exact heap_alloc_new _ _
  clear hw2
  have GL2 : Hid (Globs w2 nm z) := GL.out.grow (gtrans G1.out G12.out)
  refine (cea_fail c s m host realm prod st lo port apps 48 _ fl cmd app hop ete _ (⟨263, 0, 0, daq, sl, dcq⟩ : Av) true [(⟨263, 0, 0, daq, sl, dcq⟩ : Av)] r 0 false w2 nm z (by exact rfl) (by simp) (SR1.out.grow G12.out) LO.out.1 LO.out.2 HST.out.1 HST.out.2 (gblockN G12.out M1.out) GL2.out
    (fun w' hg0 => by have hg := gtrans G12.out hg0; exact (find_two bq capq (nm 6) true 1 daq sl dcq w' (gcell hg (cellsAt CQ.out 0 _ rfl)) (gcell hg (cellsAt CQ.out 1 _ rfl)) (gcell hg (cellsAt CQ.out 2 _ rfl)) (gcell hg (cellsAt CQ.out 3 _ rfl)) (gcell hg (cellsAt CQ.out 4 _ rfl)) (gcell hg (cellsAt CQ.out 5 _ rfl)) (gcell hg (cellsAt CQ.out 6 _ rfl)) (gcell hg (cellsAt CQ.out 7 _ rfl)))) (fun w1' p fl' sv avs hg hms hn => fail_3_none w1' _ p fl' cmd app hop ete sv avs nm z w1.heap.size r  hms ((GL.out.grow (gtrans G1.out G12.out)).grow hg) (Nat.le_trans GL.out.big (gtrans G1.out G12.out).size) hn HRR.out.1.1 HRR.out.1.2 (gblockN hg E2.out) HQ.out )).mono ?_
  rintro e w3 ⟨p, sv, a1, a2, b1, rest, c1, c2, c3, c4, rfl, hms, ha1, ha2, hb1, hb2, hr1, hr2, hc1, hc2, hc2d, hc2u, hc3, hc4, hc4d, hc4u, hg3⟩
  have hrest := hr1 rfl
  subst hrest
  rw [if_pos ⟨rfl, HQ.out⟩] at hms
  obtain ⟨hbc, hbd, hbu⟩ := hb2 rfl
  obtain ⟨g, cap, hsv, hcells⟩ := own_cells hms.row (by simp)
  have hsv2 : sv = .slice (some ⟨g, 0, none⟩) 8 cap := hsv
  subst hsv2
  have CC : Hid (∀ j u, (flat [(⟨263, 0, 0, daq, sl, dcq⟩ : Av), a1, a2, b1, c1, c2, c3, c4])[j]? = some u → w3.cell? ((⟨g, 0, none⟩ : Addr).add j) = some u) := hcells
  have P3 : Hid (w3.heap[p]? = some (.cells #[.int .u8 (bits .or .u8 (bits .and .u8 fl 64) 32), .int .u32 cmd, .int .u32 app, .int .u32 hop, .int .u32 ete, .slice (some ⟨g, 0, none⟩) 8 cap] 37 (0, 0))) := hms.box
  have K3 : Hid (w3.heap[w.heap.size]? = some (.cells #[.int .u8 fl, .int .u32 cmd, .int .u32 app, .int .u32 hop, .int .u32 ete, .bool true, .slice sa sl sc, .string host, .string realm, .string prod, .int .u32 st, .int .u8 i0, .int .u8 i1, .int .u8 i2, .int .u8 i3, .int .u16 port, .slice ia il ic, .slice va vl vc] 28 (0, 0))) := gblockN (gtrans G12.out hg3) K1.out
  have G3 : Hid (w.grownBy w3 none) := gtrans (gtrans G1.out G12.out) hg3
  have GG13 : Hid (w1.grownBy w3 none) := gtrans G12.out hg3
  have QQ : Hid (w3.cell? ⟨g, 0, none⟩ = some (.int .u32 263) ∧ w3.cell? ⟨g, 3, none⟩ = some (.slice daq sl dcq) ∧ w3.cell? ⟨g, 4, none⟩ = some (.int .u32 264) ∧ w3.cell? ⟨g, 8, none⟩ = some (.int .u32 296) ∧ w3.cell? ⟨g, 12, none⟩ = some (.int .u32 268) ∧ w3.cell? ⟨g, 13, none⟩ = some (.int .u8 b1.flags) ∧ w3.cell? ⟨g, 14, none⟩ = some (.int .u32 b1.vendor) ∧ w3.cell? ⟨g, 15, none⟩ = some (.slice b1.da 4 b1.dc) ∧ w3.cell? ⟨g, 16, none⟩ = some (.int .u32 257) ∧ w3.cell? ⟨g, 20, none⟩ = some (.int .u32 266) ∧ w3.cell? ⟨g, 21, none⟩ = some (.int .u8 c2.flags) ∧ w3.cell? ⟨g, 22, none⟩ = some (.int .u32 c2.vendor) ∧ w3.cell? ⟨g, 23, none⟩ = some (.slice c2.da 4 c2.dc) ∧ w3.cell? ⟨g, 24, none⟩ = some (.int .u32 269) ∧ w3.cell? ⟨g, 28, none⟩ = some (.int .u32 278) ∧ w3.cell? ⟨g, 29, none⟩ = some (.int .u8 c4.flags) ∧ w3.cell? ⟨g, 30, none⟩ = some (.int .u32 c4.vendor) ∧ w3.cell? ⟨g, 31, none⟩ = some (.slice c4.da 4 c4.dc)) := ⟨(cellsAt CC.out 0 _ rfl), (cellsAt CC.out 3 _ rfl), (by have h := cellsAt CC.out 4 _ rfl; rw [ha1] at h; exact h), (by have h := cellsAt CC.out 8 _ rfl; rw [ha2] at h; exact h), (by have h := cellsAt CC.out 12 _ rfl; rw [hbc] at h; exact h), (cellsAt CC.out 13 _ rfl), (cellsAt CC.out 14 _ rfl), (by have h := cellsAt CC.out 15 _ rfl; rw [hbd] at h; exact h), (by have h := cellsAt CC.out 16 _ rfl; rw [hc1] at h; exact h), (by have h := cellsAt CC.out 20 _ rfl; rw [hc2] at h; exact h), (cellsAt CC.out 21 _ rfl), (cellsAt CC.out 22 _ rfl), (by have h := cellsAt CC.out 23 _ rfl; rw [hc2d] at h; exact h), (by have h := cellsAt CC.out 24 _ rfl; rw [hc3] at h; exact h), (by have h := cellsAt CC.out 28 _ rfl; rw [hc4] at h; exact h), (cellsAt CC.out 29 _ rfl), (cellsAt CC.out 30 _ rfl), (by have h := cellsAt CC.out 31 _ rfl; rw [hc4d] at h; exact h)⟩
  have UU : Hid (U8s w3 b1.da 4 (be32 r) ∧ U8s w3 c2.da 4 (be32 0) ∧ U8s w3 c4.da 4 (be32 st)) := ⟨hbu, hc2u, hc4u⟩
  clear hms ha1 ha2 hb1 hb2 hr1 hr2 hc1 hc2 hc2d hc2u hc3 hc4 hc4d hc4u hg3 hsv hcells CC hbc hbd hbu SR1 M1 K1 GL2 E2 
  have RB3 : Hid (w3.rangeAt w.heap.size 0 [.int .u8 fl, .int .u32 cmd, .int .u32 app, .int .u32 hop, .int .u32 ete, .bool true, .slice sa sl sc, .string host, .string realm, .string prod, .int .u32 st, .int .u8 i0, .int .u8 i1, .int .u8 i2, .int .u8 i3, .int .u16 port, .slice ia il ic, .slice va vl vc] ∧ ([.int .u8 fl, .int .u32 cmd, .int .u32 app, .int .u32 hop, .int .u32 ete, .bool true, .slice sa sl sc, .string host, .string realm, .string prod, .int .u32 st, .int .u8 i0, .int .u8 i1, .int .u8 i2, .int .u8 i3, .int .u16 port, .slice ia il ic, .slice va vl vc] : List Value).length = 18) := ⟨range_block K3.out, rfl⟩
  go_wp2_with (with_reducible refine load28 ?hwa (.tmp 6) rfl w.heap.size ?hxa [.int .u8 fl, .int .u32 cmd, .int .u32 app, .int .u32 hop, .int .u32 ete, .bool true, .slice sa sl sc, .string host, .string realm, .string prod, .int .u32 st, .int .u8 i0, .int .u8 i1, .int .u8 i2, .int .u8 i3, .int .u16 port, .slice ia il ic, .slice va vl vc] RB3.out ?_)
  try (case hwa => rfl)
  try (case hxa => rfl)
  refine (head_any fl cmd app hop ete true sa sl sc host realm prod st i0 i1 i2 i3 port ia il ic va vl vc p (bits .or .u8 (bits .and .u8 fl 64) 32) (.slice (some ⟨g, 0, none⟩) 8 cap) w3 P3.out).mono ?_
  rintro e w4 ⟨rfl, hg4⟩
  have K4 : Hid (w4.heap[w.heap.size]? = some (.cells #[.int .u8 fl, .int .u32 cmd, .int .u32 app, .int .u32 hop, .int .u32 ete, .bool true, .slice sa sl sc, .string host, .string realm, .string prod, .int .u32 st, .int .u8 i0, .int .u8 i1, .int .u8 i2, .int .u8 i3, .int .u16 port, .slice ia il ic, .slice va vl vc] 28 (0, 0))) := gblockN hg4 K3.out
  have P4 : Hid (w4.heap[p]? = some (.cells #[.int .u8 (bits .or .u8 (bits .and .u8 fl 64) 32), .int .u32 cmd, .int .u32 app, .int .u32 hop, .int .u32 ete, .slice (some ⟨g, 0, none⟩) 8 cap] 37 (0, 0))) := gblockN hg4 P3.out
  have G34 : Hid (w3.grownBy w4 none) := hg4
  have d0 : w4.cell? ⟨w.heap.size, 0, none⟩ = some (.int .u8 fl) := cellOf K4.out
  have d1 : w4.cell? ⟨p, 0, none⟩ = some (.int .u8 (bits .or .u8 (bits .and .u8 fl 64) 32)) := cellOf P4.out
  clear hg4 K3 P3 RB3
  go_wp2_with fail
  clear d0 d1
  refine law_r21 (hin := K4.out) (hp := P4.out) (ix := 0) (res := 3) (hcall := fun w' hg => prefix_sid fl cmd app hop ete sa sl sc host realm prod st i0 i1 i2 i3 port ia il ic va vl vc g 8 cap daq sl dcq (strOfNums (sid.take sl)) w' (by decide) (gcell (gtrans G34.out hg) QQ.out.1) (gcell (gtrans G34.out hg) QQ.out.2.1) (gcell (gtrans G34.out hg) QQ.out.2.2.1) (gcell (gtrans G34.out hg) QQ.out.2.2.2.1) ⟨fun w'' h => conv_of_U8s (UQ.out.grow (gtrans GG13.out (gtrans G34.out (gtrans hg h)))), fun w'' h => conv_of_row (isRow_grow HI.out.2.2 (gtrans G3.out (gtrans G34.out (gtrans hg h))))⟩) (hQ := ?_)
  intros
  rename_i w5 hg5
  have G35 : Hid (w3.grownBy w5 none) := gtrans G34.out hg5
  have K5 : Hid (w5.heap[w.heap.size]? = some (.cells #[.int .u8 fl, .int .u32 cmd, .int .u32 app, .int .u32 hop, .int .u32 ete, .bool true, .slice sa sl sc, .string host, .string realm, .string prod, .int .u32 st, .int .u8 i0, .int .u8 i1, .int .u8 i2, .int .u8 i3, .int .u16 port, .slice ia il ic, .slice va vl vc] 28 (0, 0))) := gblockN hg5 K4.out
  have P5 : Hid (w5.heap[p]? = some (.cells #[.int .u8 (bits .or .u8 (bits .and .u8 fl 64) 32), .int .u32 cmd, .int .u32 app, .int .u32 hop, .int .u32 ete, .slice (some ⟨g, 0, none⟩) 8 cap] 37 (0, 0))) := gblockN hg5 P4.out
  have d5 : w5.cell? ⟨p, 5, none⟩ = some (.slice (some ⟨g, 0, none⟩) 8 cap) := cellOf P5.out
  clear hg5 K4 P4
  have e0 : w5.cell? ⟨g, 12, none⟩ = some (.int .u32 268) := gcell G35.out QQ.out.2.2.2.2.1
  have e1 : w5.cell? ⟨g, 13, none⟩ = some (.int .u8 b1.flags) := gcell G35.out QQ.out.2.2.2.2.2.1
  have e2 : w5.cell? ⟨g, 14, none⟩ = some (.int .u32 b1.vendor) := gcell G35.out QQ.out.2.2.2.2.2.2.1
  have e3 : w5.cell? ⟨g, 15, none⟩ = some (.slice b1.da 4 b1.dc) := gcell G35.out QQ.out.2.2.2.2.2.2.2.1
  go_wp2_with fail
  refine (u32_ok 268 b1.flags b1.vendor r HRR.out.1.1 HRR.out.1.2 b1.da b1.dc w5 (UU.out.1.grow G35.out)).mono ?_
  rintro e w6 ⟨rfl, hg6⟩
  have G36 : Hid (w3.grownBy w6 none) := gtrans G35.out hg6
  have K6 : Hid (w6.heap[w.heap.size]? = some (.cells #[.int .u8 fl, .int .u32 cmd, .int .u32 app, .int .u32 hop, .int .u32 ete, .bool true, .slice sa sl sc, .string host, .string realm, .string prod, .int .u32 st, .int .u8 i0, .int .u8 i1, .int .u8 i2, .int .u8 i3, .int .u16 port, .slice ia il ic, .slice va vl vc] 28 (0, 0))) := gblockN hg6 K5.out
  have P6 : Hid (w6.heap[p]? = some (.cells #[.int .u8 (bits .or .u8 (bits .and .u8 fl 64) 32), .int .u32 cmd, .int .u32 app, .int .u32 hop, .int .u32 ete, .slice (some ⟨g, 0, none⟩) 8 cap] 37 (0, 0))) := gblockN hg6 P5.out
  have d6 : w6.cell? ⟨p, 5, none⟩ = some (.slice (some ⟨g, 0, none⟩) 8 cap) := cellOf P6.out
  clear hg6 K5 P5 d5 e0 e1 e2 e3
  go_wp2_with fail
  clear d6
  refine law_r34 (hin := K6.out) (hp := P6.out) (ix := 4) (res := 8) (hcall := fun w' hg => tail_4 fl cmd app hop ete true sa sl sc host realm prod st i0 i1 i2 i3 port ia il ic va vl vc g 8 cap c2.flags c2.vendor c4.flags c4.vendor c2.da c4.da c2.dc c4.dc w' (by decide) HST.out.1 HST.out.2 (gcell (gtrans G36.out hg) QQ.out.2.2.2.2.2.2.2.2.1) (gcell (gtrans G36.out hg) QQ.out.2.2.2.2.2.2.2.2.2.1) (gcell (gtrans G36.out hg) QQ.out.2.2.2.2.2.2.2.2.2.2.1) (gcell (gtrans G36.out hg) QQ.out.2.2.2.2.2.2.2.2.2.2.2.1) (gcell (gtrans G36.out hg) QQ.out.2.2.2.2.2.2.2.2.2.2.2.2.1) (gcell (gtrans G36.out hg) QQ.out.2.2.2.2.2.2.2.2.2.2.2.2.2.1) (gcell (gtrans G36.out hg) QQ.out.2.2.2.2.2.2.2.2.2.2.2.2.2.2.1) (gcell (gtrans G36.out hg) QQ.out.2.2.2.2.2.2.2.2.2.2.2.2.2.2.2.1) (gcell (gtrans G36.out hg) QQ.out.2.2.2.2.2.2.2.2.2.2.2.2.2.2.2.2.1) (gcell (gtrans G36.out hg) QQ.out.2.2.2.2.2.2.2.2.2.2.2.2.2.2.2.2.2) (UU.out.2.1.grow (gtrans G36.out hg)) (UU.out.2.2.grow (gtrans G36.out hg))) (hQ := ?_)
  intros
  rename_i w7 hg7
  have G7 : Hid (w.grownBy w7 none) := gtrans G3.out (gtrans G36.out hg7)
  have d7 : w7.cell? ⟨p, 5, none⟩ = some (.slice (some ⟨g, 0, none⟩) 8 cap) := cellOf (gblockN hg7 P6.out)
  clear hg7 K6 P6
  go_wp2
  go_ret
  exact ⟨rfl, G7.out⟩

set_option maxHeartbeats 6400000 in
theorem law_3_TT (fl cmd app hop ete : Int) (sa : Option Addr) (sl sc : Nat) (host realm prod : ByteArray) (st i0 i1 i2 i3 port : Int) (ia : Option Addr) (il ic : Nat) (va : Option Addr) (vl vc : Nat) (kind r fc : Int) (ids vends sid : List Int) (nm : Nat → ByteArray) (z : Addr) (w : World) (hG : Globs w nm z) (hil : il ≤ 1024) (hvl : vl ≤ 1024) (hsl : sl ≤ 1024)
    (hI : IsRow .u32 w ia il ic ids) (hV : IsRow .u32 w va vl vc vends) (hSd : IsRow .u8 w sa sl sc sid) (hst0 : 0 ≤ st) (hst1 : st < 4294967296)
    (hr : (0 ≤ i0 ∧ i0 ≤ 255) ∧ (0 ≤ i1 ∧ i1 ≤ 255) ∧ (0 ≤ i2 ∧ i2 ≤ 255) ∧ (0 ≤ i3 ∧ i3 ≤ 255)) (hr0 : 0 ≤ r) (hr1 : r < 4294967296) (hf0 : 0 ≤ fc) (hf1 : fc < 4294967296) (hk0 : 0 ≤ kind) (hk : kind % 2 ≠ 0) (hq : r / 1000 = 3) :
    Calls Ybad.prog 4 #[.agg #[.int .u8 fl, .int .u32 cmd, .int .u32 app, .int .u32 hop, .int .u32 ete, .bool true, .slice sa sl sc, .string host, .string realm, .string prod, .int .u32 st, .int .u8 i0, .int .u8 i1, .int .u8 i2, .int .u8 i3, .int .u16 port, .slice ia il ic, .slice va vl vc], .int .u8 kind, .int .u32 r, .int .u32 0, .bool true, .int .u32 fc] w fun e w' => e = .returned (.bool true) ∧ w.grownBy w' none := by
  have GL : Hid (Globs w nm z) := hG
  have HI : Hid (IsRow .u32 w ia il ic ids ∧ IsRow .u32 w va vl vc vends ∧ IsRow .u8 w sa sl sc sid) := ⟨hI, hV, hSd⟩
  have HR : Hid ((0 ≤ i0 ∧ i0 ≤ 255) ∧ (0 ≤ i1 ∧ i1 ≤ 255) ∧ (0 ≤ i2 ∧ i2 ≤ 255) ∧ (0 ≤ i3 ∧ i3 ≤ 255)) := hr
  have HL : Hid (il ≤ 1024 ∧ vl ≤ 1024 ∧ sl ≤ 1024) := ⟨hil, hvl, hsl⟩
  have HST : Hid (0 ≤ st ∧ st < 4294967296) := ⟨hst0, hst1⟩
  have HRR : Hid ((0 ≤ r ∧ r < 4294967296) ∧ (0 ≤ fc ∧ fc < 4294967296)) := ⟨⟨hr0, hr1⟩, ⟨hf0, hf1⟩⟩
  have HQ : Hid (r / 1000 = 3) := hq
  have hqd : r.tdiv 1000 = 3 := by rw [Int.tdiv_eq_ediv_of_nonneg hr0]; exact hq
  clear hq
  have l1 : ¬ (1024 : Int) < (il : Int) := by omega
  have l2 : ¬ (1024 : Int) < (vl : Int) := by omega
  have l3 : ¬ (1024 : Int) < (sl : Int) := by omega
  have hkd : kind.tmod 2 ≠ 0 := by rw [Int.tmod_eq_emod_of_nonneg hk0]; exact hk
  have c16 : (w.alloc (.cells #[.int .u8 fl, .int .u32 cmd, .int .u32 app, .int .u32 hop, .int .u32 ete, .bool true, .slice sa sl sc, .string host, .string realm, .string prod, .int .u32 st, .int .u8 i0, .int .u8 i1, .int .u8 i2, .int .u8 i3, .int .u16 port, .slice ia il ic, .slice va vl vc] 28)).cell? ⟨w.heap.size, 16, none⟩ = some (.slice ia il ic) := cellOf (heap_alloc_new _ _)
  have c17 : (w.alloc (.cells #[.int .u8 fl, .int .u32 cmd, .int .u32 app, .int .u32 hop, .int .u32 ete, .bool true, .slice sa sl sc, .string host, .string realm, .string prod, .int .u32 st, .int .u8 i0, .int .u8 i1, .int .u8 i2, .int .u8 i3, .int .u16 port, .slice ia il ic, .slice va vl vc] 28)).cell? ⟨w.heap.size, 17, none⟩ = some (.slice va vl vc) := cellOf (heap_alloc_new _ _)
  have c6 : (w.alloc (.cells #[.int .u8 fl, .int .u32 cmd, .int .u32 app, .int .u32 hop, .int .u32 ete, .bool true, .slice sa sl sc, .string host, .string realm, .string prod, .int .u32 st, .int .u8 i0, .int .u8 i1, .int .u8 i2, .int .u8 i3, .int .u16 port, .slice ia il ic, .slice va vl vc] 28)).cell? ⟨w.heap.size, 6, none⟩ = some (.slice sa sl sc) := cellOf (heap_alloc_new _ _)
  clear hG hI hV hSd hr hil hvl hsl hst0 hst1 hr0 hr1 hf0 hf1 hk0 hk
  go_enter Ybad.func4, Ybad.ntmps4
  have RB : Hid ((w.alloc (.cells #[.int .u8 fl, .int .u32 cmd, .int .u32 app, .int .u32 hop, .int .u32 ete, .bool true, .slice sa sl sc, .string host, .string realm, .string prod, .int .u32 st, .int .u8 i0, .int .u8 i1, .int .u8 i2, .int .u8 i3, .int .u16 port, .slice ia il ic, .slice va vl vc] 28)).rangeAt w.heap.size 0 [.int .u8 fl, .int .u32 cmd, .int .u32 app, .int .u32 hop, .int .u32 ete, .bool true, .slice sa sl sc, .string host, .string realm, .string prod, .int .u32 st, .int .u8 i0, .int .u8 i1, .int .u8 i2, .int .u8 i3, .int .u16 port, .slice ia il ic, .slice va vl vc] ∧ ([.int .u8 fl, .int .u32 cmd, .int .u32 app, .int .u32 hop, .int .u32 ete, .bool true, .slice sa sl sc, .string host, .string realm, .string prod, .int .u32 st, .int .u8 i0, .int .u8 i1, .int .u8 i2, .int .u8 i3, .int .u16 port, .slice ia il ic, .slice va vl vc] : List Value).length = 18) := ⟨range_block (heap_alloc_new _ _), rfl⟩
  go_wp2_with (with_reducible refine load28 ?hw (.tmp 6) rfl w.heap.size ?hx [.int .u8 fl, .int .u32 cmd, .int .u32 app, .int .u32 hop, .int .u32 ete, .bool true, .slice sa sl sc, .string host, .string realm, .string prod, .int .u32 st, .int .u8 i0, .int .u8 i1, .int .u8 i2, .int .u8 i3, .int .u16 port, .slice ia il ic, .slice va vl vc] RB.out ?_)
  try (case hw => rfl)
  try (case hx => rfl)
  go_wp2_with fail
  obtain ⟨W0, hW0⟩ : ∃ W0, W0 = w.alloc (.cells #[.int .u8 fl, .int .u32 cmd, .int .u32 app, .int .u32 hop, .int .u32 ete, .bool true, .slice sa sl sc, .string host, .string realm, .string prod, .int .u32 st, .int .u8 i0, .int .u8 i1, .int .u8 i2, .int .u8 i3, .int .u16 port, .slice ia il ic, .slice va vl vc] 28) := ⟨_, rfl⟩
  rw [← hW0]
  have G0 : Hid (w.grownBy W0 none) := by show w.grownBy W0 none; rw [hW0]; exact World.grownBy_alloc _ _ _
  have K0 : Hid (W0.heap[w.heap.size]? = some (.cells #[.int .u8 fl, .int .u32 cmd, .int .u32 app, .int .u32 hop, .int .u32 ete, .bool true, .slice sa sl sc, .string host, .string realm, .string prod, .int .u32 st, .int .u8 i0, .int .u8 i1, .int .u8 i2, .int .u8 i3, .int .u16 port, .slice ia il ic, .slice va vl vc] 28 (0, 0))) := by show W0.heap[w.heap.size]? = _; rw [hW0]; exact heap_alloc_new _ _
  clear hW0 c16 c17 c6 l1 l2 l3 RB
  refine (build_any fl cmd app hop ete true sa sl sc host realm prod st i0 i1 i2 i3 port ia il ic va vl vc ids vends sid z W0 HL.out.1 HL.out.2.1 HL.out.2.2 (isRow_grow HI.out.1 G0.out) (isRow_grow HI.out.2.1 G0.out) (isRow_grow HI.out.2.2 G0.out) (GL.out.grow G0.out).zs HR.out).mono ?_
  rintro e w1 ⟨c, s, m, lo, apps, sq, rfl, hsr, hlo, hmb, hown, hg1, hw0, hw1⟩
  have SR1 : Hid (Srv w1 c s host realm prod st lo port z apps) := hsr
  have LO : Hid (0 ≤ lo ∧ lo < 18446744073709551616) := by have := bounds_u64 hlo; exact ⟨this.1, by have := this.2; omega⟩
  have M1 : Hid (w1.heap[m]? = some (.cells #[.int .u8 fl, .int .u32 cmd, .int .u32 app, .int .u32 hop, .int .u32 ete, sq] 37 (0, 0))) := hmb
  have G1 : Hid (w.grownBy w1 none) := gtrans G0.out hg1
  have K1 : Hid (w1.heap[w.heap.size]? = some (.cells #[.int .u8 fl, .int .u32 cmd, .int .u32 app, .int .u32 hop, .int .u32 ete, .bool true, .slice sa sl sc, .string host, .string realm, .string prod, .int .u32 st, .int .u8 i0, .int .u8 i1, .int .u8 i2, .int .u8 i3, .int .u16 port, .slice ia il ic, .slice va vl vc] 28 (0, 0))) := gblockN hg1 K0.out
  obtain ⟨bq, capq, daq, dcq, hsq, huq, hcq⟩ := hw1 rfl
  have UQ : Hid (U8s w1 daq sl (sid.take sl)) := huq
  have CQ : Hid (∀ j u, [Value.int .u32 1, .int .u8 0, .int .u32 0, .slice none 0 0, .int .u32 263, .int .u8 0, .int .u32 0, .slice daq sl dcq][j]? = some u → w1.cell? ((⟨bq, 0, none⟩ : Addr).add j) = some u) := hcq
  subst hsq
  clear huq
  clear hsr hlo hmb hown hg1 hw0 hw1 hcq G0 K0
  go_wp2_with fail
  obtain ⟨w2, hw2⟩ : ∃ w2, w2 = (w1.alloc (.cells #[.int .u32 r, .int .u32 0, .pointer (some ⟨w1.heap.size + 1, 0, none⟩)] 51)).alloc (.cells #[.int .u32 fc, .int .u8 0, .int .u32 0, .slice none 0 0] 41) := ⟨_, rfl⟩
  rw [← hw2]
  have G12 : Hid (w1.grownBy w2 none) := by
    show w1.grownBy w2 none
    rw [hw2]
    exact gtrans (World.grownBy_alloc _ _ _) (World.grownBy_alloc _ _ _)
  have E2 : Hid (w2.heap[w1.heap.size]? = some (.cells #[.int .u32 r, .int .u32 0, .pointer (some ⟨w1.heap.size + 1, 0, none⟩)] 51 (0, 0))) := by
    show w2.heap[w1.heap.size]? = some (.cells #[.int .u32 r, .int .u32 0, .pointer (some ⟨w1.heap.size + 1, 0, none⟩)] 51 (0, 0))
    rw [hw2]
    exact gblockN (World.grownBy_alloc _ _ _) (heap_alloc_new _ _)
  have F2 : Hid (w2.heap[w1.heap.size + 1]? = some (.cells #[.int .u32 fc, .int .u8 0, .int .u32 0, .slice none 0 0] 41 (0, 0))) := by
    show w2.heap[w1.heap.size + 1]? = some (.cells #[.int .u32 fc, .int .u8 0, .int .u32 0, .slice none 0 0] 41 (0, 0))
    rw [hw2]
    have := heap_alloc_new (w1.alloc (.cells #[.int .u32 r, .int .u32 0, .pointer (some ⟨w1.heap.size + 1, 0, none⟩)] 51)) (.cells #[.int .u32 fc, .int .u8 0, .int .u32 0, .slice none 0 0] 41)
    simpa using this
  clear hw2
  have GL2 : Hid (Globs w2 nm z) := GL.out.grow (gtrans G1.out G12.out)
  refine (cea_fail c s m host realm prod st lo port apps 48 _ fl cmd app hop ete _ (⟨263, 0, 0, daq, sl, dcq⟩ : Av) true [(⟨263, 0, 0, daq, sl, dcq⟩ : Av)] r 0 true w2 nm z (by exact rfl) (by simp) (SR1.out.grow G12.out) LO.out.1 LO.out.2 HST.out.1 HST.out.2 (gblockN G12.out M1.out) GL2.out
    (fun w' hg0 => by have hg := gtrans G12.out hg0; exact (find_two bq capq (nm 6) true 1 daq sl dcq w' (gcell hg (cellsAt CQ.out 0 _ rfl)) (gcell hg (cellsAt CQ.out 1 _ rfl)) (gcell hg (cellsAt CQ.out 2 _ rfl)) (gcell hg (cellsAt CQ.out 3 _ rfl)) (gcell hg (cellsAt CQ.out 4 _ rfl)) (gcell hg (cellsAt CQ.out 5 _ rfl)) (gcell hg (cellsAt CQ.out 6 _ rfl)) (gcell hg (cellsAt CQ.out 7 _ rfl)))) (fun w1' p fl' sv avs hg hms hn => fail_3_some w1' _ p fl' cmd app hop ete sv avs nm z w1.heap.size r (w1.heap.size + 1) fc  hms ((GL.out.grow (gtrans G1.out G12.out)).grow hg) (Nat.le_trans GL.out.big (gtrans G1.out G12.out).size) hn HRR.out.1.1 HRR.out.1.2 (gblockN hg E2.out) HQ.out (gblockN hg F2.out) (lt_of_block F2.out) HRR.out.2.1 HRR.out.2.2)).mono ?_
  rintro e w3 ⟨p, sv, a1, a2, b1, rest, c1, c2, c3, c4, rfl, hms, ha1, ha2, hb1, hb2, hr1, hr2, hc1, hc2, hc2d, hc2u, hc3, hc4, hc4d, hc4u, hg3⟩
  obtain ⟨x1, hrest, hx1⟩ := hr2 rfl
  subst hrest
  rw [if_pos ⟨rfl, HQ.out⟩] at hms
  obtain ⟨hbc, hbd, hbu⟩ := hb2 rfl
  obtain ⟨g, cap, hsv, hcells⟩ := own_cells hms.row (by simp)
  have hsv2 : sv = .slice (some ⟨g, 0, none⟩) 9 cap := hsv
  subst hsv2
  have CC : Hid (∀ j u, (flat [(⟨263, 0, 0, daq, sl, dcq⟩ : Av), a1, a2, b1, x1, c1, c2, c3, c4])[j]? = some u → w3.cell? ((⟨g, 0, none⟩ : Addr).add j) = some u) := hcells
  have P3 : Hid (w3.heap[p]? = some (.cells #[.int .u8 (bits .or .u8 (bits .and .u8 fl 64) 32), .int .u32 cmd, .int .u32 app, .int .u32 hop, .int .u32 ete, .slice (some ⟨g, 0, none⟩) 9 cap] 37 (0, 0))) := hms.box
  have K3 : Hid (w3.heap[w.heap.size]? = some (.cells #[.int .u8 fl, .int .u32 cmd, .int .u32 app, .int .u32 hop, .int .u32 ete, .bool true, .slice sa sl sc, .string host, .string realm, .string prod, .int .u32 st, .int .u8 i0, .int .u8 i1, .int .u8 i2, .int .u8 i3, .int .u16 port, .slice ia il ic, .slice va vl vc] 28 (0, 0))) := gblockN (gtrans G12.out hg3) K1.out
  have G3 : Hid (w.grownBy w3 none) := gtrans (gtrans G1.out G12.out) hg3
  have GG13 : Hid (w1.grownBy w3 none) := gtrans G12.out hg3
  have QQ : Hid (w3.cell? ⟨g, 0, none⟩ = some (.int .u32 263) ∧ w3.cell? ⟨g, 3, none⟩ = some (.slice daq sl dcq) ∧ w3.cell? ⟨g, 4, none⟩ = some (.int .u32 264) ∧ w3.cell? ⟨g, 8, none⟩ = some (.int .u32 296) ∧ w3.cell? ⟨g, 12, none⟩ = some (.int .u32 268) ∧ w3.cell? ⟨g, 13, none⟩ = some (.int .u8 b1.flags) ∧ w3.cell? ⟨g, 14, none⟩ = some (.int .u32 b1.vendor) ∧ w3.cell? ⟨g, 15, none⟩ = some (.slice b1.da 4 b1.dc) ∧ w3.cell? ⟨g, 16, none⟩ = some (.int .u32 279) ∧ w3.cell? ⟨g, 20, none⟩ = some (.int .u32 257) ∧ w3.cell? ⟨g, 24, none⟩ = some (.int .u32 266) ∧ w3.cell? ⟨g, 25, none⟩ = some (.int .u8 c2.flags) ∧ w3.cell? ⟨g, 26, none⟩ = some (.int .u32 c2.vendor) ∧ w3.cell? ⟨g, 27, none⟩ = some (.slice c2.da 4 c2.dc) ∧ w3.cell? ⟨g, 28, none⟩ = some (.int .u32 269) ∧ w3.cell? ⟨g, 32, none⟩ = some (.int .u32 278) ∧ w3.cell? ⟨g, 33, none⟩ = some (.int .u8 c4.flags) ∧ w3.cell? ⟨g, 34, none⟩ = some (.int .u32 c4.vendor) ∧ w3.cell? ⟨g, 35, none⟩ = some (.slice c4.da 4 c4.dc)) := ⟨(cellsAt CC.out 0 _ rfl), (cellsAt CC.out 3 _ rfl), (by have h := cellsAt CC.out 4 _ rfl; rw [ha1] at h; exact h), (by have h := cellsAt CC.out 8 _ rfl; rw [ha2] at h; exact h), (by have h := cellsAt CC.out 12 _ rfl; rw [hbc] at h; exact h), (cellsAt CC.out 13 _ rfl), (cellsAt CC.out 14 _ rfl), (by have h := cellsAt CC.out 15 _ rfl; rw [hbd] at h; exact h), (by have h := cellsAt CC.out 16 _ rfl; rw [hx1] at h; exact h), (by have h := cellsAt CC.out 20 _ rfl; rw [hc1] at h; exact h), (by have h := cellsAt CC.out 24 _ rfl; rw [hc2] at h; exact h), (cellsAt CC.out 25 _ rfl), (cellsAt CC.out 26 _ rfl), (by have h := cellsAt CC.out 27 _ rfl; rw [hc2d] at h; exact h), (by have h := cellsAt CC.out 28 _ rfl; rw [hc3] at h; exact h), (by have h := cellsAt CC.out 32 _ rfl; rw [hc4] at h; exact h), (cellsAt CC.out 33 _ rfl), (cellsAt CC.out 34 _ rfl), (by have h := cellsAt CC.out 35 _ rfl; rw [hc4d] at h; exact h)⟩
  have UU : Hid (U8s w3 b1.da 4 (be32 r) ∧ U8s w3 c2.da 4 (be32 0) ∧ U8s w3 c4.da 4 (be32 st)) := ⟨hbu, hc2u, hc4u⟩
  clear hms ha1 ha2 hb1 hb2 hr1 hr2 hc1 hc2 hc2d hc2u hc3 hc4 hc4d hc4u hg3 hsv hcells CC hbc hx1 hbd hbu SR1 M1 K1 GL2 E2 F2 
  have RB3 : Hid (w3.rangeAt w.heap.size 0 [.int .u8 fl, .int .u32 cmd, .int .u32 app, .int .u32 hop, .int .u32 ete, .bool true, .slice sa sl sc, .string host, .string realm, .string prod, .int .u32 st, .int .u8 i0, .int .u8 i1, .int .u8 i2, .int .u8 i3, .int .u16 port, .slice ia il ic, .slice va vl vc] ∧ ([.int .u8 fl, .int .u32 cmd, .int .u32 app, .int .u32 hop, .int .u32 ete, .bool true, .slice sa sl sc, .string host, .string realm, .string prod, .int .u32 st, .int .u8 i0, .int .u8 i1, .int .u8 i2, .int .u8 i3, .int .u16 port, .slice ia il ic, .slice va vl vc] : List Value).length = 18) := ⟨range_block K3.out, rfl⟩
  go_wp2_with (with_reducible refine load28 ?hwa (.tmp 6) rfl w.heap.size ?hxa [.int .u8 fl, .int .u32 cmd, .int .u32 app, .int .u32 hop, .int .u32 ete, .bool true, .slice sa sl sc, .string host, .string realm, .string prod, .int .u32 st, .int .u8 i0, .int .u8 i1, .int .u8 i2, .int .u8 i3, .int .u16 port, .slice ia il ic, .slice va vl vc] RB3.out ?_)
  try (case hwa => rfl)
  try (case hxa => rfl)
  refine (head_any fl cmd app hop ete true sa sl sc host realm prod st i0 i1 i2 i3 port ia il ic va vl vc p (bits .or .u8 (bits .and .u8 fl 64) 32) (.slice (some ⟨g, 0, none⟩) 9 cap) w3 P3.out).mono ?_
  rintro e w4 ⟨rfl, hg4⟩
  have K4 : Hid (w4.heap[w.heap.size]? = some (.cells #[.int .u8 fl, .int .u32 cmd, .int .u32 app, .int .u32 hop, .int .u32 ete, .bool true, .slice sa sl sc, .string host, .string realm, .string prod, .int .u32 st, .int .u8 i0, .int .u8 i1, .int .u8 i2, .int .u8 i3, .int .u16 port, .slice ia il ic, .slice va vl vc] 28 (0, 0))) := gblockN hg4 K3.out
  have P4 : Hid (w4.heap[p]? = some (.cells #[.int .u8 (bits .or .u8 (bits .and .u8 fl 64) 32), .int .u32 cmd, .int .u32 app, .int .u32 hop, .int .u32 ete, .slice (some ⟨g, 0, none⟩) 9 cap] 37 (0, 0))) := gblockN hg4 P3.out
  have G34 : Hid (w3.grownBy w4 none) := hg4
  have d0 : w4.cell? ⟨w.heap.size, 0, none⟩ = some (.int .u8 fl) := cellOf K4.out
  have d1 : w4.cell? ⟨p, 0, none⟩ = some (.int .u8 (bits .or .u8 (bits .and .u8 fl 64) 32)) := cellOf P4.out
  clear hg4 K3 P3 RB3
  go_wp2_with fail
  clear d0 d1
  refine law_r21 (hin := K4.out) (hp := P4.out) (ix := 0) (res := 3) (hcall := fun w' hg => prefix_sid fl cmd app hop ete sa sl sc host realm prod st i0 i1 i2 i3 port ia il ic va vl vc g 9 cap daq sl dcq (strOfNums (sid.take sl)) w' (by decide) (gcell (gtrans G34.out hg) QQ.out.1) (gcell (gtrans G34.out hg) QQ.out.2.1) (gcell (gtrans G34.out hg) QQ.out.2.2.1) (gcell (gtrans G34.out hg) QQ.out.2.2.2.1) ⟨fun w'' h => conv_of_U8s (UQ.out.grow (gtrans GG13.out (gtrans G34.out (gtrans hg h)))), fun w'' h => conv_of_row (isRow_grow HI.out.2.2 (gtrans G3.out (gtrans G34.out (gtrans hg h))))⟩) (hQ := ?_)
  intros
  rename_i w5 hg5
  have G35 : Hid (w3.grownBy w5 none) := gtrans G34.out hg5
  have K5 : Hid (w5.heap[w.heap.size]? = some (.cells #[.int .u8 fl, .int .u32 cmd, .int .u32 app, .int .u32 hop, .int .u32 ete, .bool true, .slice sa sl sc, .string host, .string realm, .string prod, .int .u32 st, .int .u8 i0, .int .u8 i1, .int .u8 i2, .int .u8 i3, .int .u16 port, .slice ia il ic, .slice va vl vc] 28 (0, 0))) := gblockN hg5 K4.out
  have P5 : Hid (w5.heap[p]? = some (.cells #[.int .u8 (bits .or .u8 (bits .and .u8 fl 64) 32), .int .u32 cmd, .int .u32 app, .int .u32 hop, .int .u32 ete, .slice (some ⟨g, 0, none⟩) 9 cap] 37 (0, 0))) := gblockN hg5 P4.out
  have d5 : w5.cell? ⟨p, 5, none⟩ = some (.slice (some ⟨g, 0, none⟩) 9 cap) := cellOf P5.out
  clear hg5 K4 P4
  have e0 : w5.cell? ⟨g, 12, none⟩ = some (.int .u32 268) := gcell G35.out QQ.out.2.2.2.2.1
  have e1 : w5.cell? ⟨g, 13, none⟩ = some (.int .u8 b1.flags) := gcell G35.out QQ.out.2.2.2.2.2.1
  have e2 : w5.cell? ⟨g, 14, none⟩ = some (.int .u32 b1.vendor) := gcell G35.out QQ.out.2.2.2.2.2.2.1
  have e3 : w5.cell? ⟨g, 15, none⟩ = some (.slice b1.da 4 b1.dc) := gcell G35.out QQ.out.2.2.2.2.2.2.2.1
  go_wp2_with fail
  refine (u32_ok 268 b1.flags b1.vendor r HRR.out.1.1 HRR.out.1.2 b1.da b1.dc w5 (UU.out.1.grow G35.out)).mono ?_
  rintro e w6 ⟨rfl, hg6⟩
  have G36 : Hid (w3.grownBy w6 none) := gtrans G35.out hg6
  have K6 : Hid (w6.heap[w.heap.size]? = some (.cells #[.int .u8 fl, .int .u32 cmd, .int .u32 app, .int .u32 hop, .int .u32 ete, .bool true, .slice sa sl sc, .string host, .string realm, .string prod, .int .u32 st, .int .u8 i0, .int .u8 i1, .int .u8 i2, .int .u8 i3, .int .u16 port, .slice ia il ic, .slice va vl vc] 28 (0, 0))) := gblockN hg6 K5.out
  have P6 : Hid (w6.heap[p]? = some (.cells #[.int .u8 (bits .or .u8 (bits .and .u8 fl 64) 32), .int .u32 cmd, .int .u32 app, .int .u32 hop, .int .u32 ete, .slice (some ⟨g, 0, none⟩) 9 cap] 37 (0, 0))) := gblockN hg6 P5.out
  have d6 : w6.cell? ⟨p, 5, none⟩ = some (.slice (some ⟨g, 0, none⟩) 9 cap) := cellOf P6.out
  have e4 : w6.cell? ⟨g, 16, none⟩ = some (.int .u32 279) := gcell G36.out QQ.out.2.2.2.2.2.2.2.2.1
  clear hg6 K5 P5 d5 e0 e1 e2 e3
  go_wp2_with fail
  clear d6 e4
  refine law_r34 (hin := K6.out) (hp := P6.out) (ix := 5) (res := 9) (hcall := fun w' hg => tail_5 fl cmd app hop ete true sa sl sc host realm prod st i0 i1 i2 i3 port ia il ic va vl vc g 9 cap c2.flags c2.vendor c4.flags c4.vendor c2.da c4.da c2.dc c4.dc w' (by decide) HST.out.1 HST.out.2 (gcell (gtrans G36.out hg) QQ.out.2.2.2.2.2.2.2.2.2.1) (gcell (gtrans G36.out hg) QQ.out.2.2.2.2.2.2.2.2.2.2.1) (gcell (gtrans G36.out hg) QQ.out.2.2.2.2.2.2.2.2.2.2.2.1) (gcell (gtrans G36.out hg) QQ.out.2.2.2.2.2.2.2.2.2.2.2.2.1) (gcell (gtrans G36.out hg) QQ.out.2.2.2.2.2.2.2.2.2.2.2.2.2.1) (gcell (gtrans G36.out hg) QQ.out.2.2.2.2.2.2.2.2.2.2.2.2.2.2.1) (gcell (gtrans G36.out hg) QQ.out.2.2.2.2.2.2.2.2.2.2.2.2.2.2.2.1) (gcell (gtrans G36.out hg) QQ.out.2.2.2.2.2.2.2.2.2.2.2.2.2.2.2.2.1) (gcell (gtrans G36.out hg) QQ.out.2.2.2.2.2.2.2.2.2.2.2.2.2.2.2.2.2.1) (gcell (gtrans G36.out hg) QQ.out.2.2.2.2.2.2.2.2.2.2.2.2.2.2.2.2.2.2) (UU.out.2.1.grow (gtrans G36.out hg)) (UU.out.2.2.grow (gtrans G36.out hg))) (hQ := ?_)
  intros
  rename_i w7 hg7
  have G7 : Hid (w.grownBy w7 none) := gtrans G3.out (gtrans G36.out hg7)
  have d7 : w7.cell? ⟨p, 5, none⟩ = some (.slice (some ⟨g, 0, none⟩) 9 cap) := cellOf (gblockN hg7 P6.out)
  clear hg7 K6 P6
  go_wp2
  go_ret
  exact ⟨rfl, G7.out⟩
end Go.Proofs.YbulkaptmDoor
