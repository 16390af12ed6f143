/-
  The Success law, walked.
-/
import Derived.Test.YbulkaptmDoorSucC
namespace Go.Proofs.YbulkaptmDoor
open Go.RowKit
set_option linter.unusedVariables false
set_option linter.unusedSimpArgs false
set_option maxRecDepth 100000

set_option maxHeartbeats 6400000 in
theorem suc_T (fl cmd app hop ete : Int) (sa : Option Addr) (sl sc : Nat) (host realm prod : ByteArray) (st i0 i1 i2 i3 port : Int) (ia : Option Addr) (il ic : Nat) (va : Option Addr) (vl vc : Nat) (ids vends sid : List Int) (nm : Nat → ByteArray) (z : Addr) (w : World) (hG : Globs w nm z) (hil : il ≤ 1024) (hvl : vl ≤ 1024) (hsl : sl ≤ 1024)
    (hI : IsRow .u32 w ia il ic ids) (hV : IsRow .u32 w va vl vc vends) (hSd : IsRow .u8 w sa sl sc sid) (hst0 : 0 ≤ st) (hst1 : st < 4294967296)
    (hr : (0 ≤ i0 ∧ i0 ≤ 255) ∧ (0 ≤ i1 ∧ i1 ≤ 255) ∧ (0 ≤ i2 ∧ i2 ≤ 255) ∧ (0 ≤ i3 ∧ i3 ≤ 255)) :
    Calls Ybad.prog 3 #[.agg #[.int .u8 fl, .int .u32 cmd, .int .u32 app, .int .u32 hop, .int .u32 ete, .bool true, .slice sa sl sc, .string host, .string realm, .string prod, .int .u32 st, .int .u8 i0, .int .u8 i1, .int .u8 i2, .int .u8 i3, .int .u16 port, .slice ia il ic, .slice va vl vc]] w fun e w' => e = .returned (.bool true) ∧ w.grownBy w' none := by
  have GL : Hid (Globs w nm z) := hG
  have HI : Hid (IsRow .u32 w ia il ic ids ∧ IsRow .u32 w va vl vc vends ∧ IsRow .u8 w sa sl sc sid) := ⟨hI, hV, hSd⟩
  have HR : Hid ((0 ≤ i0 ∧ i0 ≤ 255) ∧ (0 ≤ i1 ∧ i1 ≤ 255) ∧ (0 ≤ i2 ∧ i2 ≤ 255) ∧ (0 ≤ i3 ∧ i3 ≤ 255)) := hr
  have HL : Hid (il ≤ 1024 ∧ vl ≤ 1024 ∧ sl ≤ 1024) := ⟨hil, hvl, hsl⟩
  have HST : Hid (0 ≤ st ∧ st < 4294967296) := ⟨hst0, hst1⟩
  have l1 : ¬ (1024 : Int) < (il : Int) := by omega
  have l2 : ¬ (1024 : Int) < (vl : Int) := by omega
  have l3 : ¬ (1024 : Int) < (sl : Int) := by omega
  have c16 : (w.alloc (.cells #[.int .u8 fl, .int .u32 cmd, .int .u32 app, .int .u32 hop, .int .u32 ete, .bool true, .slice sa sl sc, .string host, .string realm, .string prod, .int .u32 st, .int .u8 i0, .int .u8 i1, .int .u8 i2, .int .u8 i3, .int .u16 port, .slice ia il ic, .slice va vl vc] 28)).cell? ⟨w.heap.size, 16, none⟩ = some (.slice ia il ic) := cellOf (heap_alloc_new _ _)
  have c17 : (w.alloc (.cells #[.int .u8 fl, .int .u32 cmd, .int .u32 app, .int .u32 hop, .int .u32 ete, .bool true, .slice sa sl sc, .string host, .string realm, .string prod, .int .u32 st, .int .u8 i0, .int .u8 i1, .int .u8 i2, .int .u8 i3, .int .u16 port, .slice ia il ic, .slice va vl vc] 28)).cell? ⟨w.heap.size, 17, none⟩ = some (.slice va vl vc) := cellOf (heap_alloc_new _ _)
  have c6 : (w.alloc (.cells #[.int .u8 fl, .int .u32 cmd, .int .u32 app, .int .u32 hop, .int .u32 ete, .bool true, .slice sa sl sc, .string host, .string realm, .string prod, .int .u32 st, .int .u8 i0, .int .u8 i1, .int .u8 i2, .int .u8 i3, .int .u16 port, .slice ia il ic, .slice va vl vc] 28)).cell? ⟨w.heap.size, 6, none⟩ = some (.slice sa sl sc) := cellOf (heap_alloc_new _ _)
  clear hG hI hV hSd hr hil hvl hsl hst0 hst1
  go_enter Ybad.func3, Ybad.ntmps3
  have RB : Hid ((w.alloc (.cells #[.int .u8 fl, .int .u32 cmd, .int .u32 app, .int .u32 hop, .int .u32 ete, .bool true, .slice sa sl sc, .string host, .string realm, .string prod, .int .u32 st, .int .u8 i0, .int .u8 i1, .int .u8 i2, .int .u8 i3, .int .u16 port, .slice ia il ic, .slice va vl vc] 28)).rangeAt w.heap.size 0 [.int .u8 fl, .int .u32 cmd, .int .u32 app, .int .u32 hop, .int .u32 ete, .bool true, .slice sa sl sc, .string host, .string realm, .string prod, .int .u32 st, .int .u8 i0, .int .u8 i1, .int .u8 i2, .int .u8 i3, .int .u16 port, .slice ia il ic, .slice va vl vc] ∧ ([.int .u8 fl, .int .u32 cmd, .int .u32 app, .int .u32 hop, .int .u32 ete, .bool true, .slice sa sl sc, .string host, .string realm, .string prod, .int .u32 st, .int .u8 i0, .int .u8 i1, .int .u8 i2, .int .u8 i3, .int .u16 port, .slice ia il ic, .slice va vl vc] : List Value).length = 18) := ⟨range_block (heap_alloc_new _ _), rfl⟩
  go_wp2_with (with_reducible refine load28 ?hw (.tmp 1) rfl w.heap.size ?hx [.int .u8 fl, .int .u32 cmd, .int .u32 app, .int .u32 hop, .int .u32 ete, .bool true, .slice sa sl sc, .string host, .string realm, .string prod, .int .u32 st, .int .u8 i0, .int .u8 i1, .int .u8 i2, .int .u8 i3, .int .u16 port, .slice ia il ic, .slice va vl vc] RB.out ?_)
  try (case hw => rfl)
  try (case hx => rfl)
  go_wp2_with fail
  obtain ⟨W0, hW0⟩ : ∃ W0, W0 = w.alloc (.cells #[.int .u8 fl, .int .u32 cmd, .int .u32 app, .int .u32 hop, .int .u32 ete, .bool true, .slice sa sl sc, .string host, .string realm, .string prod, .int .u32 st, .int .u8 i0, .int .u8 i1, .int .u8 i2, .int .u8 i3, .int .u16 port, .slice ia il ic, .slice va vl vc] 28) := ⟨_, rfl⟩
  rw [← hW0]
  have G0 : Hid (w.grownBy W0 none) := by show w.grownBy W0 none; rw [hW0]; exact World.grownBy_alloc _ _ _
  have K0 : Hid (W0.heap[w.heap.size]? = some (.cells #[.int .u8 fl, .int .u32 cmd, .int .u32 app, .int .u32 hop, .int .u32 ete, .bool true, .slice sa sl sc, .string host, .string realm, .string prod, .int .u32 st, .int .u8 i0, .int .u8 i1, .int .u8 i2, .int .u8 i3, .int .u16 port, .slice ia il ic, .slice va vl vc] 28 (0, 0))) := by show W0.heap[w.heap.size]? = _; rw [hW0]; exact heap_alloc_new _ _
  clear hW0 c16 c17 c6 l1 l2 l3 RB
  refine (build_anyM fl cmd app hop ete true sa sl sc host realm prod st i0 i1 i2 i3 port ia il ic va vl vc ids vends sid z W0 HL.out.1 HL.out.2.1 HL.out.2.2 (isRow_grow HI.out.1 G0.out) (isRow_grow HI.out.2.1 G0.out) (isRow_grow HI.out.2.2 G0.out) (GL.out.grow G0.out).zs HR.out).mono ?_
  rintro e w1 ⟨c, s, m, lo, apps, sq, rfl, hsr, hlo, hss, hmb, hown, hg1, hw0, hw1⟩
  have SR1 : Hid (SrvM w1 c s host realm prod st lo port z apps) := hsr
  have LO : Hid (0 ≤ lo ∧ lo < 18446744073709551616) := by have := bounds_u64 hlo; exact ⟨this.1, by have := this.2; omega⟩
  have M1 : Hid (w1.heap[m]? = some (.cells #[.int .u8 fl, .int .u32 cmd, .int .u32 app, .int .u32 hop, .int .u32 ete, sq] 37 (0, 0))) := hmb
  have G1 : Hid (w.grownBy w1 none) := gtrans G0.out hg1
  have K1 : Hid (w1.heap[w.heap.size]? = some (.cells #[.int .u8 fl, .int .u32 cmd, .int .u32 app, .int .u32 hop, .int .u32 ete, .bool true, .slice sa sl sc, .string host, .string realm, .string prod, .int .u32 st, .int .u8 i0, .int .u8 i1, .int .u8 i2, .int .u8 i3, .int .u16 port, .slice ia il ic, .slice va vl vc] 28 (0, 0))) := gblockN hg1 K0.out
  have GL1 : Hid (Globs w1 nm z) := GL.out.grow G1.out
  obtain ⟨n, hn⟩ : ∃ n, n = (if vl < il then vl else il) := ⟨_, rfl⟩
  rw [← hn] at hown
  have HN : Hid (n = (if vl < il then vl else il)) := hn
  have hn1 : n ≤ il := by rw [hn]; split <;> omega
  have hn2 : n ≤ vl := by rw [hn]; split <;> omega
  have hn3 : n ≤ 1024 := by have := HL.out.1; omega
  have AP1 : Hid (w1.ownsRow W0.heap.size 55 2 apps n (appCells ids vends n) ∧ 17 ≤ s) := ⟨hown, by have := (GL.out.grow G0.out).big; omega⟩
  have WFI : Hid ((∀ j, (Lit.int .u32 (ids.getD j 0)).wf = true) ∧ (∀ j, (Lit.int .u32 (vends.getD j 0)).wf = true)) := ⟨isRow_wf HI.out.1 (by decide), isRow_wf HI.out.2.1 (by decide)⟩
  obtain ⟨bq, capq, daq, dcq, hsq, huq, hcq⟩ := hw1 rfl
  have UQ : Hid (U8s w1 daq sl (sid.take sl)) := huq
  have CQ : Hid (∀ j u, [Value.int .u32 1, .int .u8 0, .int .u32 0, .slice none 0 0, .int .u32 263, .int .u8 0, .int .u32 0, .slice daq sl dcq][j]? = some u → w1.cell? ((⟨bq, 0, none⟩ : Addr).add j) = some u) := hcq
  subst hsq
  clear huq
  clear hsr hlo hmb hown hg1 hw0 hw1 hcq G0 K0 hn hss
  go_wp2_with fail
  refine (cea_ok c s m n W0.heap.size host realm prod st lo port apps fl cmd app hop ete _ (⟨263, 0, 0, daq, sl, dcq⟩ : Av) true [(⟨263, 0, 0, daq, sl, dcq⟩ : Av)] ids vends w1 nm z (by exact rfl) (by simp) SR1.out LO.out.1 LO.out.2 HST.out.1 HST.out.2 M1.out GL1.out
    (fun w' hg => find_two bq capq (nm 6) true 1 daq sl dcq w' (gcell hg (cellsAt CQ.out 0 _ rfl)) (gcell hg (cellsAt CQ.out 1 _ rfl)) (gcell hg (cellsAt CQ.out 2 _ rfl)) (gcell hg (cellsAt CQ.out 3 _ rfl)) (gcell hg (cellsAt CQ.out 4 _ rfl)) (gcell hg (cellsAt CQ.out 5 _ rfl)) (gcell hg (cellsAt CQ.out 6 _ rfl)) (gcell hg (cellsAt CQ.out 7 _ rfl))) AP1.out.1 (by omega) WFI.out.1 WFI.out.2 AP1.out.2).mono ?_
  rintro e w3 ⟨p, sv, a1, a2, b1, c1, c2, c3, c4, news, rfl, hms, ha1, ha2, hbc, hbd, hbu, hc1, hc2, hc2d, hc2u, hc3, hc4, hc4d, hc4u, hnews, hg3⟩
  obtain ⟨g, cap, hsv, hcells⟩ := own_cells hms.row (by simp)
  obtain ⟨N, hNN⟩ : ∃ N, N = 8 + news.length := ⟨_, rfl⟩
  have hsv2 : sv = .slice (some ⟨g, 0, none⟩) N cap := by rw [hsv]; congr 1; simp only [List.length_append, List.length_cons, List.length_nil]; omega
  subst hsv2
  have CC : Hid (∀ j u, (flat ([(⟨263, 0, 0, daq, sl, dcq⟩ : Av), a1, a2, b1, c1, c2, c3, c4] ++ news))[j]? = some u → w3.cell? ((⟨g, 0, none⟩ : Addr).add j) = some u) := hcells
  have P3 : Hid (w3.heap[p]? = some (.cells #[.int .u8 (bits .and .u8 fl 64), .int .u32 cmd, .int .u32 app, .int .u32 hop, .int .u32 ete, .slice (some ⟨g, 0, none⟩) N cap] 37 (0, 0))) := hms.box
  have K3 : Hid (w3.heap[w.heap.size]? = some (.cells #[.int .u8 fl, .int .u32 cmd, .int .u32 app, .int .u32 hop, .int .u32 ete, .bool true, .slice sa sl sc, .string host, .string realm, .string prod, .int .u32 st, .int .u8 i0, .int .u8 i1, .int .u8 i2, .int .u8 i3, .int .u16 port, .slice ia il ic, .slice va vl vc] 28 (0, 0))) := gblockN hg3 K1.out
  have G3 : Hid (w.grownBy w3 none) := gtrans G1.out hg3
  have GG13 : Hid (w1.grownBy w3 none) := hg3
  have NW3 : Hid (AvsOk w3 news (sp1 vends n ++ sp2 ids vends n)) := hnews
  have NN : Hid (N = 8 + news.length) := hNN
  have QQ : Hid (w3.cell? ⟨g, 0, none⟩ = some (.int .u32 263) ∧ w3.cell? ⟨g, 3, none⟩ = some (.slice daq sl dcq) ∧ w3.cell? ⟨g, 4, none⟩ = some (.int .u32 264) ∧ w3.cell? ⟨g, 8, none⟩ = some (.int .u32 296) ∧ w3.cell? ⟨g, 12, none⟩ = some (.int .u32 268) ∧ w3.cell? ⟨g, 13, none⟩ = some (.int .u8 b1.flags) ∧ w3.cell? ⟨g, 14, none⟩ = some (.int .u32 b1.vendor) ∧ w3.cell? ⟨g, 15, none⟩ = some (.slice b1.da 4 b1.dc) ∧ w3.cell? ⟨g, 16, none⟩ = some (.int .u32 257) ∧ w3.cell? ⟨g, 20, none⟩ = some (.int .u32 266) ∧ w3.cell? ⟨g, 21, none⟩ = some (.int .u8 c2.flags) ∧ w3.cell? ⟨g, 22, none⟩ = some (.int .u32 c2.vendor) ∧ w3.cell? ⟨g, 23, none⟩ = some (.slice c2.da 4 c2.dc) ∧ w3.cell? ⟨g, 24, none⟩ = some (.int .u32 269) ∧ w3.cell? ⟨g, 28, none⟩ = some (.int .u32 278) ∧ w3.cell? ⟨g, 29, none⟩ = some (.int .u8 c4.flags) ∧ w3.cell? ⟨g, 30, none⟩ = some (.int .u32 c4.vendor) ∧ w3.cell? ⟨g, 31, none⟩ = some (.slice c4.da 4 c4.dc)) := ⟨(cellsAt CC.out 0 _ rfl), (cellsAt CC.out 3 _ rfl), (by have h := cellsAt CC.out 4 _ rfl; rw [ha1] at h; exact h), (by have h := cellsAt CC.out 8 _ rfl; rw [ha2] at h; exact h), (by have h := cellsAt CC.out 12 _ rfl; rw [hbc] at h; exact h), (cellsAt CC.out 13 _ rfl), (cellsAt CC.out 14 _ rfl), (by have h := cellsAt CC.out 15 _ rfl; rw [hbd] at h; exact h), (by have h := cellsAt CC.out 16 _ rfl; rw [hc1] at h; exact h), (by have h := cellsAt CC.out 20 _ rfl; rw [hc2] at h; exact h), (cellsAt CC.out 21 _ rfl), (cellsAt CC.out 22 _ rfl), (by have h := cellsAt CC.out 23 _ rfl; rw [hc2d] at h; exact h), (by have h := cellsAt CC.out 24 _ rfl; rw [hc3] at h; exact h), (by have h := cellsAt CC.out 28 _ rfl; rw [hc4] at h; exact h), (cellsAt CC.out 29 _ rfl), (cellsAt CC.out 30 _ rfl), (by have h := cellsAt CC.out 31 _ rfl; rw [hc4d] at h; exact h)⟩
  have UU : Hid (U8s w3 b1.da 4 (be32 2001) ∧ U8s w3 c2.da 4 (be32 0) ∧ U8s w3 c4.da 4 (be32 st)) := ⟨hbu, hc2u, hc4u⟩
  have hN7 : 8 ≤ N := by omega
  clear hms ha1 ha2 hbc hbd hbu hc1 hc2 hc2d hc2u hc3 hc4 hc4d hc4u hg3 hsv hcells SR1 M1 K1 GL1 hnews hNN
  go_wp2_with fail
  refine suc_r5 (hin := K3.out) (hp := P3.out) (hcall := fun w' hg => head_any fl cmd app hop ete true sa sl sc host realm prod st i0 i1 i2 i3 port ia il ic va vl vc p (bits .and .u8 fl 64) (.slice (some ⟨g, 0, none⟩) N cap) w' (gblockN hg P3.out)) (hQ := ?_)
  intros
  rename_i w4 hg4
  have G34 : Hid (w3.grownBy w4 none) := hg4
  have K4 : Hid (w4.heap[w.heap.size]? = some (.cells #[.int .u8 fl, .int .u32 cmd, .int .u32 app, .int .u32 hop, .int .u32 ete, .bool true, .slice sa sl sc, .string host, .string realm, .string prod, .int .u32 st, .int .u8 i0, .int .u8 i1, .int .u8 i2, .int .u8 i3, .int .u16 port, .slice ia il ic, .slice va vl vc] 28 (0, 0))) := gblockN hg4 K3.out
  have P4 : Hid (w4.heap[p]? = some (.cells #[.int .u8 (bits .and .u8 fl 64), .int .u32 cmd, .int .u32 app, .int .u32 hop, .int .u32 ete, .slice (some ⟨g, 0, none⟩) N cap] 37 (0, 0))) := gblockN hg4 P3.out
  clear hg4 K3 P3
  go_wp2_with fail
  refine suc_r7 (hin := K4.out) (hp := P4.out) (res := 3) (hcall := fun w' hg => prefix_sid fl cmd app hop ete sa sl sc host realm prod st i0 i1 i2 i3 port ia il ic va vl vc g N cap daq sl dcq (strOfNums (sid.take sl)) w' (by omega) (gcell (gtrans G34.out hg) QQ.out.1) (gcell (gtrans G34.out hg) QQ.out.2.1) (gcell (gtrans G34.out hg) QQ.out.2.2.1) (gcell (gtrans G34.out hg) QQ.out.2.2.2.1) ⟨fun w'' h => conv_of_U8s (UQ.out.grow (gtrans GG13.out (gtrans G34.out (gtrans hg h)))), fun w'' h => conv_of_row (isRow_grow HI.out.2.2 (gtrans G3.out (gtrans G34.out (gtrans hg h))))⟩) (hQ := ?_)
  intros
  rename_i w5 hg5
  have G35 : Hid (w3.grownBy w5 none) := gtrans G34.out hg5
  have K5 : Hid (w5.heap[w.heap.size]? = some (.cells #[.int .u8 fl, .int .u32 cmd, .int .u32 app, .int .u32 hop, .int .u32 ete, .bool true, .slice sa sl sc, .string host, .string realm, .string prod, .int .u32 st, .int .u8 i0, .int .u8 i1, .int .u8 i2, .int .u8 i3, .int .u16 port, .slice ia il ic, .slice va vl vc] 28 (0, 0))) := gblockN hg5 K4.out
  have P5 : Hid (w5.heap[p]? = some (.cells #[.int .u8 (bits .and .u8 fl 64), .int .u32 cmd, .int .u32 app, .int .u32 hop, .int .u32 ete, .slice (some ⟨g, 0, none⟩) N cap] 37 (0, 0))) := gblockN hg5 P4.out
  have d5 : w5.cell? ⟨p, 5, none⟩ = some (.slice (some ⟨g, 0, none⟩) N cap) := cellOf P5.out
  have x0 : w5.cell? ⟨g, 12, none⟩ = some (.int .u32 268) := gcell G35.out QQ.out.2.2.2.2.1
  have x1 : w5.cell? ⟨g, 13, none⟩ = some (.int .u8 b1.flags) := gcell G35.out QQ.out.2.2.2.2.2.1
  have x2 : w5.cell? ⟨g, 14, none⟩ = some (.int .u32 b1.vendor) := gcell G35.out QQ.out.2.2.2.2.2.2.1
  have x3 : w5.cell? ⟨g, 15, none⟩ = some (.slice b1.da 4 b1.dc) := gcell G35.out QQ.out.2.2.2.2.2.2.2.1
  have y1 : ¬ (N : Int) < 4 := by omega
  have y2 : (3 : Int) < (N : Int) := by omega
  clear hg5 K4 P4
  go_wp2_with fail
  refine (u32_ok 268 b1.flags b1.vendor 2001 (by decide) (by decide) b1.da b1.dc w5 (UU.out.1.grow G35.out)).mono ?_
  rintro e w6 ⟨rfl, hg6⟩
  have G36 : Hid (w3.grownBy w6 none) := gtrans G35.out hg6
  have K6 : Hid (w6.heap[w.heap.size]? = some (.cells #[.int .u8 fl, .int .u32 cmd, .int .u32 app, .int .u32 hop, .int .u32 ete, .bool true, .slice sa sl sc, .string host, .string realm, .string prod, .int .u32 st, .int .u8 i0, .int .u8 i1, .int .u8 i2, .int .u8 i3, .int .u16 port, .slice ia il ic, .slice va vl vc] 28 (0, 0))) := gblockN hg6 K5.out
  have P6 : Hid (w6.heap[p]? = some (.cells #[.int .u8 (bits .and .u8 fl 64), .int .u32 cmd, .int .u32 app, .int .u32 hop, .int .u32 ete, .slice (some ⟨g, 0, none⟩) N cap] 37 (0, 0))) := gblockN hg6 P5.out
  clear hg6 K5 P5 d5 x0 x1 x2 x3 y1 y2
  go_wp2_with fail
  refine suc_r10_3 (hin := K6.out) (hp := P6.out) (res := 8) (hcall := fun w' hg => tail_4 fl cmd app hop ete true sa sl sc host realm prod st i0 i1 i2 i3 port ia il ic va vl vc g N cap c2.flags c2.vendor c4.flags c4.vendor c2.da c4.da c2.dc c4.dc w' (by omega) HST.out.1 HST.out.2 (gcell (gtrans G36.out hg) QQ.out.2.2.2.2.2.2.2.2.1) (gcell (gtrans G36.out hg) QQ.out.2.2.2.2.2.2.2.2.2.1) (gcell (gtrans G36.out hg) QQ.out.2.2.2.2.2.2.2.2.2.2.1) (gcell (gtrans G36.out hg) QQ.out.2.2.2.2.2.2.2.2.2.2.2.1) (gcell (gtrans G36.out hg) QQ.out.2.2.2.2.2.2.2.2.2.2.2.2.1) (gcell (gtrans G36.out hg) QQ.out.2.2.2.2.2.2.2.2.2.2.2.2.2.1) (gcell (gtrans G36.out hg) QQ.out.2.2.2.2.2.2.2.2.2.2.2.2.2.2.1) (gcell (gtrans G36.out hg) QQ.out.2.2.2.2.2.2.2.2.2.2.2.2.2.2.2.1) (gcell (gtrans G36.out hg) QQ.out.2.2.2.2.2.2.2.2.2.2.2.2.2.2.2.2.1) (gcell (gtrans G36.out hg) QQ.out.2.2.2.2.2.2.2.2.2.2.2.2.2.2.2.2.2) (UU.out.2.1.grow (gtrans G36.out hg)) (UU.out.2.2.grow (gtrans G36.out hg))) (hQ := ?_)
  intros
  rename_i w7 hg7
  have G37 : Hid (w3.grownBy w7 none) := gtrans G36.out hg7
  have K7 : Hid (w7.heap[w.heap.size]? = some (.cells #[.int .u8 fl, .int .u32 cmd, .int .u32 app, .int .u32 hop, .int .u32 ete, .bool true, .slice sa sl sc, .string host, .string realm, .string prod, .int .u32 st, .int .u8 i0, .int .u8 i1, .int .u8 i2, .int .u8 i3, .int .u16 port, .slice ia il ic, .slice va vl vc] 28 (0, 0))) := gblockN hg7 K6.out
  have P7 : Hid (w7.heap[p]? = some (.cells #[.int .u8 (bits .and .u8 fl 64), .int .u32 cmd, .int .u32 app, .int .u32 hop, .int .u32 ete, .slice (some ⟨g, 0, none⟩) N cap] 37 (0, 0))) := gblockN hg7 P6.out
  have RB7 : Hid (w7.rangeAt w.heap.size 0 [.int .u8 fl, .int .u32 cmd, .int .u32 app, .int .u32 hop, .int .u32 ete, .bool true, .slice sa sl sc, .string host, .string realm, .string prod, .int .u32 st, .int .u8 i0, .int .u8 i1, .int .u8 i2, .int .u8 i3, .int .u16 port, .slice ia il ic, .slice va vl vc] ∧ ([.int .u8 fl, .int .u32 cmd, .int .u32 app, .int .u32 hop, .int .u32 ete, .bool true, .slice sa sl sc, .string host, .string realm, .string prod, .int .u32 st, .int .u8 i0, .int .u8 i1, .int .u8 i2, .int .u8 i3, .int .u16 port, .slice ia il ic, .slice va vl vc] : List Value).length = 18) := ⟨range_block K7.out, rfl⟩
  clear hg7 K6 P6
  go_wp2_with (with_reducible refine load28 ?hwa (.tmp 1) rfl w.heap.size ?hxa [.int .u8 fl, .int .u32 cmd, .int .u32 app, .int .u32 hop, .int .u32 ete, .bool true, .slice sa sl sc, .string host, .string realm, .string prod, .int .u32 st, .int .u8 i0, .int .u8 i1, .int .u8 i2, .int .u8 i3, .int .u16 port, .slice ia il ic, .slice va vl vc] RB7.out ?_)
  try (case hwa => rfl)
  try (case hxa => rfl)
  go_wp2_with fail
  refine (n_any fl cmd app hop ete true sa sl sc host realm prod st i0 i1 i2 i3 port ia il ic va vl vc _ (by have := HL.out.1; omega) (by have := HL.out.2.1; omega)).mono ?_
  rintro e w8 ⟨rfl, hg8⟩
  rw [← HN.out]
  have G38 : Hid (w3.grownBy w8 none) := gtrans G37.out hg8
  have G8 : Hid (w.grownBy w8 none) := gtrans G3.out G38.out
  have K8 : Hid (w8.heap[w.heap.size]? = some (.cells #[.int .u8 fl, .int .u32 cmd, .int .u32 app, .int .u32 hop, .int .u32 ete, .bool true, .slice sa sl sc, .string host, .string realm, .string prod, .int .u32 st, .int .u8 i0, .int .u8 i1, .int .u8 i2, .int .u8 i3, .int .u16 port, .slice ia il ic, .slice va vl vc] 28 (0, 0))) := gblockN hg8 K7.out
  have P8 : Hid (w8.heap[p]? = some (.cells #[.int .u8 (bits .and .u8 fl 64), .int .u32 cmd, .int .u32 app, .int .u32 hop, .int .u32 ete, .slice (some ⟨g, 0, none⟩) N cap] 37 (0, 0))) := gblockN hg8 P7.out
  have NW8 : Hid (AvsOk w8 news (sp1 vends n ++ sp2 ids vends n)) := AvsOk.mono (fun _ _ _ h => h.grow G38.out) NW3.out
  have CC8 : Hid (∀ j u, (flat ([(⟨263, 0, 0, daq, sl, dcq⟩ : Av), a1, a2, b1, c1, c2, c3, c4] ++ news))[j]? = some u → w8.cell? ((⟨g, 0, none⟩ : Addr).add j) = some u) := fun j u h => gcell G38.out (CC.out j u h)
  clear hg8 K7 P7 RB7 QQ UU NW3 CC
  go_wp2_with fail
  have hs8 : w.heap.size < w8.heap.size := lt_of_block K8.out
  have HU : Hid (∀ wr, Below w8.heap.size w8 wr → (wr.heap[w.heap.size]? = some (.cells #[.int .u8 fl, .int .u32 cmd, .int .u32 app, .int .u32 hop, .int .u32 ete, .bool true, .slice sa sl sc, .string host, .string realm, .string prod, .int .u32 st, .int .u8 i0, .int .u8 i1, .int .u8 i2, .int .u8 i3, .int .u16 port, .slice ia il ic, .slice va vl vc] 28 (0, 0)) ∧ IsRow .u32 wr ia il ic ids ∧ IsRow .u32 wr va vl vc vends)) := by
    show ∀ wr, Below w8.heap.size w8 wr → (wr.heap[w.heap.size]? = some (.cells #[.int .u8 fl, .int .u32 cmd, .int .u32 app, .int .u32 hop, .int .u32 ete, .bool true, .slice sa sl sc, .string host, .string realm, .string prod, .int .u32 st, .int .u8 i0, .int .u8 i1, .int .u8 i2, .int .u8 i3, .int .u16 port, .slice ia il ic, .slice va vl vc] 28 (0, 0)) ∧ IsRow .u32 wr ia il ic ids ∧ IsRow .u32 wr va vl vc vends)
    intro wr hb
    have hg := gofBelow hb
    exact ⟨gblockN hg K8.out, isRow_grow HI.out.1 (gtrans G8.out hg), isRow_grow HI.out.2.1 (gtrans G8.out hg)⟩
  obtain ⟨i22, hi, hz0, hz1, hz2⟩ := info_parts info22
  go_loopw [8, 9, 10] (fun d8 d9 i wr => ∃ k : Nat, k ≤ n ∧ i = .int .i64 k ∧ Hid (TwoRows wr w8.heap.size d8 d9 (sp1 vends k)) ∧ Hid (Below w8.heap.size w8 wr)) (fun _ _ i _ => n - (intOf i).toNat)
  case atStart => exact ⟨0, Nat.zero_le _, rfl, ⟨⟨rfl, .inl ⟨rfl, rfl⟩⟩, ⟨rfl, .inl ⟨rfl, rfl⟩⟩, .inl rfl⟩, Below.refl _ _⟩
  case round =>
    obtain ⟨k, hk, rfl, TR, HB⟩ := hrel
    by_cases hlt : k < n
    · have hlt' : (k : Int) < (n : Int) := by omega
      have kvl : (k : Int) < (vl : Int) := by omega
      have d17 : wr.cell? ⟨w.heap.size, 17, none⟩ = some (.slice va vl vc) := cellOf (HU.out wr HB.out).1
      obtain ⟨xv, hxv, hcv, _⟩ := isRow_cells (HU.out wr HB.out).2.2 (Below.refl _ _) (j := k) (by omega)
      subst hxv
      obtain ⟨vd, hvd⟩ : ∃ vd, vd = vends.getD k 0 := ⟨_, rfl⟩
      rw [← hvd] at hcv
      have HVD : Hid (vd = vends.getD k 0) := hvd
      clear hvd
      have h1024 : (n : Int) ≤ 1024 := by omega
      have hsw : w8.heap.size ≤ wr.heap.size := HB.out.size
      have hlen : (sp1 vends k).length ≤ k := sp1_le _ _
      by_cases h0 : vd = 0
      · subst h0
        go_wp2
        go_roundw
        case rel => exact ⟨k + 1, by omega, by go_num, by show TwoRows _ _ _ _ (sp1 vends (k + 1)); rw [sp1_old (.inl HVD.out.symm)]; exact TR.out, HB⟩
        case measure => simp [intOf]; omega
      · go_upto_block 2 with fail
        go_cut [12, 111] (fun s12 s111 wx => s12 = .bool (decide (vd ∈ seen vends k)) ∧ wx = wr)
        case first =>
          go_wp2_with fail
          go_loopw [12, 13] (fun d j wq => ∃ q : Nat, q ≤ k ∧ j = .int .i64 q ∧ d = .bool false ∧ wq = wr ∧ Hid (∀ i, i < q → vends.getD i 0 ≠ vd)) (fun _ j _ => k - (intOf j).toNat)
          case atStart => exact ⟨0, Nat.zero_le _, rfl, rfl, rfl, fun i hi => by omega⟩
          case round =>
            obtain ⟨q, hq, rfl, rfl, rfl, HQ⟩ := hrel
            by_cases hql : q < k
            · have ql' : (q : Int) < (k : Int) := by omega
              have qvl : (q : Int) < (vl : Int) := by omega
              obtain ⟨x', hx', hcq, _⟩ := isRow_cells (HU.out _ HB.out).2.2 (Below.refl _ _) (j := q) (by omega)
              cases hx'
              obtain ⟨y, hy⟩ : ∃ y, y = vends.getD q 0 := ⟨_, rfl⟩
              rw [← hy] at hcq
              have HY : Hid (y = vends.getD q 0) := hy
              clear hy
              by_cases he : y = vd
              · subst he
                have HIN : Hid (y ∈ seen vends k) := (seen_iff h0 k).2 ⟨q, hql, HY.out.symm⟩
                go_wp2_with fail
                go_meet
                exact ⟨by rw [decide_eq_true HIN.out], rfl⟩
              · go_wp2
                go_roundw
                case rel =>
                  refine ⟨q + 1, by omega, by go_num, (by first | rfl | trivial), (by first | rfl | trivial), ?_⟩
                  show ∀ i, i < q + 1 → vends.getD i 0 ≠ vd
                  intro i hi
                  by_cases hiq : i < q
                  · exact HQ.out i hiq
                  · obtain rfl : i = q := by omega
                    rw [← HY.out]; exact he
                case measure => simp [intOf]; omega
            · have ql' : ¬ (q : Int) < (k : Int) := by omega
              have HNI : Hid (vd ∉ seen vends k) := by
                show vd ∉ seen vends k
                intro h
                obtain ⟨j, h1, h2⟩ := (seen_iff h0 k).1 h
                exact HQ.out j (by omega) h2
              go_wp2_with fail
              go_meet
              exact ⟨by rw [decide_eq_false HNI.out], rfl⟩
        case rest =>
          obtain ⟨rfl, rfl⟩ := hcut
          by_cases hin : vd ∈ seen vends k
          · rw [decide_eq_true hin]
            have HIN : Hid (vd ∈ seen vends k) := hin
            clear hin
            go_wp2
            go_roundw
            case rel => exact ⟨k + 1, by omega, by go_num, by show TwoRows _ _ _ _ (sp1 vends (k + 1)); rw [sp1_old (.inr (by rw [← HVD.out]; exact HIN.out))]; exact TR.out, HB⟩
            case measure => simp [intOf]; omega
          · rw [decide_eq_false hin]
            have HIN : Hid (vd ∉ seen vends k) := hin
            clear hin
            have RAp : Hid ((wc.alloc (.cells #[.int .u32 265] 22)).ownsRow w8.heap.size 22 1 u8 (sp1 vends k).length (cds (sp1 vends k))) := keptN TR.out.r8 (World.grownBy_alloc _ _ _)
            have RBp : Hid ((wc.alloc (.cells #[.int .u32 265] 22)).ownsRow w8.heap.size 22 1 u9 (sp1 vends k).length (vls (sp1 vends k))) := keptN TR.out.r9 (World.grownBy_alloc _ _ _)
            have LNp : Hid ((sp1 vends k).length + 1 ≤ maxLen ∧ ((sp1 vends k).length + 1) * 4 ≤ 140737488355328) := ⟨by unfold maxLen; omega, by omega⟩
            go_wp2_with (at_builtin; refine wpList_append_own_at _ rfl (.tmp 126) (.tmp 127) 26 rfl w8.heap.size 22 i22 (.int .u32 0) 1 4 Ybad.underlying26 hi hz0 hz1 hz2 rfl (by decide) u8 (sp1 vends k).length (cds (sp1 vends k)) rfl RAp.out ⟨wc.heap.size, 0, none⟩ 1 1 [.int .u32 265] rfl rfl (World.news_of_block (heap_alloc_new wc (.cells #[.int .u32 265] 22))) (ints_oneCell .u32 [265]) LNp.out.1 LNp.out.2 (by simp; omega) ?_)
            intro v8p x1p hown8 hg8 _ hat8
            have OTp : Hid (x1p.ownsRow w8.heap.size 22 1 u9 (sp1 vends k).length (vls (sp1 vends k)) ∧ Dist v8p.ownBlock u9.ownBlock) := own_two RBp.out hg8 TR.out.di (by simpa using hat8)
            have O8p : Hid (x1p.ownsRow w8.heap.size 22 1 v8p ((sp1 vends k).length + 1) (cds (sp1 vends k) ++ [.int .u32 265])) := hown8
            have B1p : Hid (Below w8.heap.size w8 x1p) := (HB.out.alloc hsw _).grown hg8 (by simp; omega) (fun k hk => (RAp.out.lt _ hk).1)
            have s1p : w8.heap.size ≤ x1p.heap.size := B1p.out.size
            have RCp : Hid ((x1p.alloc (.cells #[.int .u32 vd] 22)).ownsRow w8.heap.size 22 1 u9 (sp1 vends k).length (vls (sp1 vends k))) := keptN OTp.out.1 (World.grownBy_alloc _ _ _)
            have RDp : Hid ((x1p.alloc (.cells #[.int .u32 vd] 22)).ownsRow w8.heap.size 22 1 v8p ((sp1 vends k).length + 1) (cds (sp1 vends k) ++ [.int .u32 265])) := keptN O8p.out (World.grownBy_alloc _ _ _)
            clear hown8 hg8 hat8
            go_wp2_with (at_builtin; refine wpList_append_own_at _ rfl (.tmp 129) (.tmp 131) 26 rfl w8.heap.size 22 i22 (.int .u32 0) 1 4 Ybad.underlying26 hi hz0 hz1 hz2 rfl (by decide) u9 (sp1 vends k).length (vls (sp1 vends k)) rfl RCp.out ⟨x1p.heap.size, 0, none⟩ 1 1 [.int .u32 vd] rfl rfl (World.news_of_block (heap_alloc_new x1p (.cells #[.int .u32 vd] 22))) (ints_oneCell .u32 [vd]) LNp.out.1 LNp.out.2 (by simp; omega) ?_)
            intro v9p x2p hown9 hg9 _ hat9
            have OUp : Hid (x2p.ownsRow w8.heap.size 22 1 v8p ((sp1 vends k).length + 1) (cds (sp1 vends k) ++ [.int .u32 265]) ∧ Dist v9p.ownBlock v8p.ownBlock) := own_two RDp.out hg9 OTp.out.2.symm (by simpa using hat9)
            have TRp : Hid (TwoRows x2p w8.heap.size v8p v9p ((sp1 vends k) ++ [(265, some vd)])) := ⟨by rw [cds_append, List.length_append]; exact OUp.out.1, by rw [vls_append, List.length_append]; exact hown9, OUp.out.2.symm⟩
            have BLp : Hid (Below w8.heap.size w8 x2p) := (B1p.out.alloc s1p _).grown hg9 (by simp; omega) (fun k hk => (RCp.out.lt _ hk).1)
            clear hown9 hg9 hat9 TR HB
            go_wp2
            go_roundw
            case rel =>
              refine ⟨k + 1, by omega, by go_num, ?_, BLp.out⟩
              show TwoRows _ _ _ _ (sp1 vends (k + 1))
              rw [sp1_new (by rw [← HVD.out]; exact h0) (by rw [← HVD.out]; exact HIN.out), ← HVD.out]
              exact TRp.out
            case measure => simp [intOf]; omega
    · have hlt' : ¬ (k : Int) < (n : Int) := by omega
      have hkn : n = k := by omega
      subst hkn
      have h1024 : (n : Int) ≤ 1024 := by omega
      clear hlt
      go_wp2_with fail
      clear hlt'
      go_loopw [8, 9, 14] (fun d8 d9 i wr => ∃ q : Nat, q ≤ n ∧ i = .int .i64 q ∧ Hid (TwoRows wr w8.heap.size d8 d9 (sp1 vends n ++ sp2 ids vends q)) ∧ Hid (Below w8.heap.size w8 wr)) (fun _ _ i _ => n - (intOf i).toNat)
      case atStart => exact ⟨0, Nat.zero_le _, rfl, by show TwoRows _ _ _ _ (sp1 vends n ++ []); rw [List.append_nil]; exact TR.out, HB⟩
      case round =>
        clear TR HB
        obtain ⟨q, hq, rfl, TR, HB⟩ := hrel
        have hsw : w8.heap.size ≤ wr.heap.size := HB.out.size
        have hlen : (sp1 vends n ++ sp2 ids vends q).length ≤ 2048 := by rw [List.length_append, sp2_len]; have := sp1_le vends n; omega
        by_cases hlt : q < n
        · obtain ⟨LL, hLL⟩ : ∃ LL, LL = sp1 vends n ++ sp2 ids vends q := ⟨_, rfl⟩
          rw [← hLL] at TR hlen
          have HLL : Hid (LL = sp1 vends n ++ sp2 ids vends q) := hLL
          clear hLL
          have hqlt : (q : Int) < (n : Int) := by omega
          have qvl : (q : Int) < (vl : Int) := by omega
          have qil : (q : Int) < (il : Int) := by omega
          have d17 : wr.cell? ⟨w.heap.size, 17, none⟩ = some (.slice va vl vc) := cellOf (HU.out wr HB.out).1
          obtain ⟨xv, hxv, hcv, _⟩ := isRow_cells (HU.out wr HB.out).2.2 (Below.refl _ _) (j := q) (by omega)
          subst hxv
          obtain ⟨xi, hxi, hci0, _⟩ := isRow_cells (HU.out wr HB.out).2.1 (Below.refl _ _) (j := q) (by omega)
          subst hxi
          obtain ⟨vd, hvd⟩ : ∃ vd, vd = vends.getD q 0 := ⟨_, rfl⟩
          rw [← hvd] at hcv
          have HVD : Hid (vd = vends.getD q 0) := hvd
          clear hvd
          obtain ⟨id, hid⟩ : ∃ id, id = ids.getD q 0 := ⟨_, rfl⟩
          have HID : Hid (id = ids.getD q 0) := hid
          clear hid hci0
          by_cases h0 : vd = 0
          · subst h0
            have RAr : Hid ((wr.alloc (.cells #[.int .u32 258] 22)).ownsRow w8.heap.size 22 1 u8 LL.length (cds LL)) := keptN TR.out.r8 (World.grownBy_alloc _ _ _)
            have RBr : Hid ((wr.alloc (.cells #[.int .u32 258] 22)).ownsRow w8.heap.size 22 1 u9 LL.length (vls LL)) := keptN TR.out.r9 (World.grownBy_alloc _ _ _)
            have LNr : Hid (LL.length + 1 ≤ maxLen ∧ (LL.length + 1) * 4 ≤ 140737488355328) := ⟨by unfold maxLen; omega, by omega⟩
            go_wp2_with (at_builtin; refine wpList_append_own_at _ rfl (.tmp 144) (.tmp 145) 26 rfl w8.heap.size 22 i22 (.int .u32 0) 1 4 Ybad.underlying26 hi hz0 hz1 hz2 rfl (by decide) u8 LL.length (cds LL) rfl RAr.out ⟨wr.heap.size, 0, none⟩ 1 1 [.int .u32 258] rfl rfl (World.news_of_block (heap_alloc_new wr (.cells #[.int .u32 258] 22))) (ints_oneCell .u32 [258]) LNr.out.1 LNr.out.2 (by simp; omega) ?_)
            intro v8r x1r hown8 hg8 _ hat8
            have OTr : Hid (x1r.ownsRow w8.heap.size 22 1 u9 LL.length (vls LL) ∧ Dist v8r.ownBlock u9.ownBlock) := own_two RBr.out hg8 TR.out.di (by simpa using hat8)
            have O8r : Hid (x1r.ownsRow w8.heap.size 22 1 v8r (LL.length + 1) (cds LL ++ [.int .u32 258])) := hown8
            have B1r : Hid (Below w8.heap.size w8 x1r) := (HB.out.alloc hsw _).grown hg8 (by simp; omega) (fun k hk => (RAr.out.lt _ hk).1)
            have s1r : w8.heap.size ≤ x1r.heap.size := B1r.out.size
            have RCr : Hid ((x1r.alloc (.cells #[.int .u32 id] 22)).ownsRow w8.heap.size 22 1 u9 LL.length (vls LL)) := keptN OTr.out.1 (World.grownBy_alloc _ _ _)
            have RDr : Hid ((x1r.alloc (.cells #[.int .u32 id] 22)).ownsRow w8.heap.size 22 1 v8r (LL.length + 1) (cds LL ++ [.int .u32 258])) := keptN O8r.out (World.grownBy_alloc _ _ _)
            clear hown8 hg8 hat8
            have d16 : x1r.cell? ⟨w.heap.size, 16, none⟩ = some (.slice (some xi) il ic) := cellOf (HU.out _ B1r.out).1
            obtain ⟨xi2, hxi2, hci, _⟩ := isRow_cells (HU.out _ B1r.out).2.1 (Below.refl _ _) (j := q) (by omega)
            cases hxi2
            rw [← HID.out] at hci
            go_wp2_with (at_builtin; refine wpList_append_own_at _ rfl (.tmp 147) (.tmp 153) 26 rfl w8.heap.size 22 i22 (.int .u32 0) 1 4 Ybad.underlying26 hi hz0 hz1 hz2 rfl (by decide) u9 LL.length (vls LL) rfl RCr.out ⟨x1r.heap.size, 0, none⟩ 1 1 [.int .u32 id] rfl rfl (World.news_of_block (heap_alloc_new x1r (.cells #[.int .u32 id] 22))) (ints_oneCell .u32 [id]) LNr.out.1 LNr.out.2 (by simp; omega) ?_)
            intro v9r x2r hown9 hg9 _ hat9
            have OUr : Hid (x2r.ownsRow w8.heap.size 22 1 v8r (LL.length + 1) (cds LL ++ [.int .u32 258]) ∧ Dist v9r.ownBlock v8r.ownBlock) := own_two RDr.out hg9 OTr.out.2.symm (by simpa using hat9)
            have TRr : Hid (TwoRows x2r w8.heap.size v8r v9r (LL ++ [(258, some id)])) := ⟨by rw [cds_append, List.length_append]; exact OUr.out.1, by rw [vls_append, List.length_append]; exact hown9, OUr.out.2.symm⟩
            have BLr : Hid (Below w8.heap.size w8 x2r) := (B1r.out.alloc s1r _).grown hg9 (by simp; omega) (fun k hk => (RCr.out.lt _ hk).1)
            clear hown9 hg9 hat9 TR HB
            go_wp2
            go_roundw
            case rel =>
              refine ⟨q + 1, by omega, by go_num, ?_, BLr.out⟩
              show TwoRows _ _ _ _ (sp1 vends n ++ (sp2 ids vends q ++ [if vends.getD q 0 = 0 then (258, some (ids.getD q 0)) else (260, none)]))
              rw [if_pos HVD.out.symm, ← HID.out, ← List.append_assoc, ← HLL.out]
              exact TRr.out
            case measure => simp [intOf]; omega
          · skip
            have RAt : Hid ((wr.alloc (.cells #[.int .u32 260] 22)).ownsRow w8.heap.size 22 1 u8 LL.length (cds LL)) := keptN TR.out.r8 (World.grownBy_alloc _ _ _)
            have RBt : Hid ((wr.alloc (.cells #[.int .u32 260] 22)).ownsRow w8.heap.size 22 1 u9 LL.length (vls LL)) := keptN TR.out.r9 (World.grownBy_alloc _ _ _)
            have LNt : Hid (LL.length + 1 ≤ maxLen ∧ (LL.length + 1) * 4 ≤ 140737488355328) := ⟨by unfold maxLen; omega, by omega⟩
            go_wp2_with (at_builtin; refine wpList_append_own_at _ rfl (.tmp 155) (.tmp 156) 26 rfl w8.heap.size 22 i22 (.int .u32 0) 1 4 Ybad.underlying26 hi hz0 hz1 hz2 rfl (by decide) u8 LL.length (cds LL) rfl RAt.out ⟨wr.heap.size, 0, none⟩ 1 1 [.int .u32 260] rfl rfl (World.news_of_block (heap_alloc_new wr (.cells #[.int .u32 260] 22))) (ints_oneCell .u32 [260]) LNt.out.1 LNt.out.2 (by simp; omega) ?_)
            intro v8t x1t hown8 hg8 _ hat8
            have OTt : Hid (x1t.ownsRow w8.heap.size 22 1 u9 LL.length (vls LL) ∧ Dist v8t.ownBlock u9.ownBlock) := own_two RBt.out hg8 TR.out.di (by simpa using hat8)
            have O8t : Hid (x1t.ownsRow w8.heap.size 22 1 v8t (LL.length + 1) (cds LL ++ [.int .u32 260])) := hown8
            have B1t : Hid (Below w8.heap.size w8 x1t) := (HB.out.alloc hsw _).grown hg8 (by simp; omega) (fun k hk => (RAt.out.lt _ hk).1)
            have s1t : w8.heap.size ≤ x1t.heap.size := B1t.out.size
            have RCt : Hid ((x1t.alloc (.cells #[.int .u32 0] 22)).ownsRow w8.heap.size 22 1 u9 LL.length (vls LL)) := keptN OTt.out.1 (World.grownBy_alloc _ _ _)
            have RDt : Hid ((x1t.alloc (.cells #[.int .u32 0] 22)).ownsRow w8.heap.size 22 1 v8t (LL.length + 1) (cds LL ++ [.int .u32 260])) := keptN O8t.out (World.grownBy_alloc _ _ _)
            clear hown8 hg8 hat8
            go_wp2_with (at_builtin; refine wpList_append_own_at _ rfl (.tmp 158) (.tmp 159) 26 rfl w8.heap.size 22 i22 (.int .u32 0) 1 4 Ybad.underlying26 hi hz0 hz1 hz2 rfl (by decide) u9 LL.length (vls LL) rfl RCt.out ⟨x1t.heap.size, 0, none⟩ 1 1 [.int .u32 0] rfl rfl (World.news_of_block (heap_alloc_new x1t (.cells #[.int .u32 0] 22))) (ints_oneCell .u32 [0]) LNt.out.1 LNt.out.2 (by simp; omega) ?_)
            intro v9t x2t hown9 hg9 _ hat9
            have OUt : Hid (x2t.ownsRow w8.heap.size 22 1 v8t (LL.length + 1) (cds LL ++ [.int .u32 260]) ∧ Dist v9t.ownBlock v8t.ownBlock) := own_two RDt.out hg9 OTt.out.2.symm (by simpa using hat9)
            have TRt : Hid (TwoRows x2t w8.heap.size v8t v9t (LL ++ [(260, none)])) := ⟨by rw [cds_append, List.length_append]; exact OUt.out.1, by rw [vls_append, List.length_append]; exact hown9, OUt.out.2.symm⟩
            have BLt : Hid (Below w8.heap.size w8 x2t) := (B1t.out.alloc s1t _).grown hg9 (by simp; omega) (fun k hk => (RCt.out.lt _ hk).1)
            clear hown9 hg9 hat9 TR HB
            go_wp2
            go_roundw
            case rel =>
              refine ⟨q + 1, by omega, by go_num, ?_, BLt.out⟩
              show TwoRows _ _ _ _ (sp1 vends n ++ (sp2 ids vends q ++ [if vends.getD q 0 = 0 then (258, some (ids.getD q 0)) else (260, none)]))
              rw [if_neg (by rw [← HVD.out]; exact h0), ← List.append_assoc, ← HLL.out]
              exact TRt.out
            case measure => simp [intOf]; omega
        · have hqlt : ¬ (q : Int) < (n : Int) := by omega
          have hqn : n = q := by omega
          subst hqn
          obtain ⟨a8, c8, hd8, hr8⟩ := row1_form TR.out.r8
          obtain ⟨a9, c9, hd9, hr9⟩ := row1_form TR.out.r9
          subst hd8
          subst hd9
          obtain ⟨SS, hSS⟩ : ∃ SS, SS = sp1 vends n ++ sp2 ids vends n := ⟨_, rfl⟩
          rw [← hSS] at hr8 hr9 hlen
          have KIND : Hid (∀ s ∈ SS, s.1 = 260 ∨ ∃ v, s.2 = some v ∧ s.1 ≠ 260 ∧ (Lit.int .u32 v).wf = true) := by rw [hSS]; exact sp_kind WFI.out.1 WFI.out.2 n
          have OK8 : Hid (AvsOk w8 news SS) := by rw [hSS]; exact NW8.out
          rw [← hSS]
          obtain ⟨M, hM⟩ : ∃ M, M = SS.length := ⟨_, rfl⟩
          rw [← hM] at hlen
          rw [← hM]
          have HM : Hid (M = SS.length) := hM
          have hNM : (N : Int) = 8 + (M : Int) := by have h1 := NN.out; have h2 := OK8.out.len; omega
          have hM2 : (M : Int) ≤ 2048 := by omega
          have R8 : Hid (∀ j u, (cds SS)[j]? = some u → ∃ g, a8 = some ⟨g, 0, none⟩ ∧ wr.cell? ((⟨g, 0, none⟩ : Addr).add j) = some u) := hr8
          have R9 : Hid (∀ j u, (vls SS)[j]? = some u → ∃ g, a9 = some ⟨g, 0, none⟩ ∧ wr.cell? ((⟨g, 0, none⟩ : Addr).add j) = some u) := hr9
          obtain ⟨w9, hw9⟩ : ∃ w9, w9 = wr := ⟨_, rfl⟩
          subst hw9
          have P9 : Hid (w9.heap[p]? = some (.cells #[.int .u8 (bits .and .u8 fl 64), .int .u32 cmd, .int .u32 app, .int .u32 hop, .int .u32 ete, .slice (some ⟨g, 0, none⟩) N cap] 37 (0, 0))) := gblockN (gofBelow HB.out) P8.out
          have d5 : w9.cell? ⟨p, 5, none⟩ = some (.slice (some ⟨g, 0, none⟩) N cap) := cellOf P9.out
          clear hr8 hr9 hSS TR hM hlt
          go_wp2_with fail
          clear d5
          go_loopw [15] (fun i wr => ∃ q : Nat, q ≤ M ∧ i = .int .i64 q ∧ Hid (w9.grownBy wr none)) (fun i _ => M - (intOf i).toNat)
          case atStart => exact ⟨0, Nat.zero_le _, rfl, World.grownBy.refl _ _⟩
          case round =>
            obtain ⟨q, hq, rfl, HG⟩ := hrel
            by_cases hlt : q < M
            · have hqM : (q : Int) < (M : Int) := by omega
              have hqN : 8 + (q : Int) < (N : Int) := by omega
              have hsl : q < SS.length := by have := HM.out; omega
              have hnl : q < news.length := by have := OK8.out.len; omega
              have AO := OK8.out.get q hnl hsl
              obtain ⟨sp, hsp⟩ : ∃ sp, sp = SS[q] := ⟨_, rfl⟩
              obtain ⟨av, hav⟩ : ∃ av, av = news[q] := ⟨_, rfl⟩
              rw [← hsp, ← hav] at AO
              have G89 : w8.grownBy wr none := gtrans (gofBelow HB.out) HG.out
              have hidx : ([(⟨263, 0, 0, daq, sl, dcq⟩ : Av), a1, a2, b1, c1, c2, c3, c4] ++ news)[8 + q]? = some av := by
                rw [List.getElem?_append_right (by simp), hav]
                have e : 8 + q - [(⟨263, 0, 0, daq, sl, dcq⟩ : Av), a1, a2, b1, c1, c2, c3, c4].length = q := by simp only [List.length_cons, List.length_nil]; omega
                rw [e, List.getElem?_eq_getElem hnl]
              obtain ⟨f0, f1, f2, f3⟩ := flat_at hidx
              have y0 := gcell G89 (cellsAt CC8.out _ _ f0)
              have y1 := gcell G89 (cellsAt CC8.out _ _ f1)
              have y2 := gcell G89 (cellsAt CC8.out _ _ f2)
              have y3 := gcell G89 (cellsAt CC8.out _ _ f3)
              have d5 : wr.cell? ⟨p, 5, none⟩ = some (.slice (some ⟨g, 0, none⟩) N cap) := cellOf (gblockN HG.out P9.out)
              obtain ⟨g8, ha8, hc8⟩ := R8.out q (.int .u32 sp.1) (by rw [hsp]; simp [cds, hsl])
              obtain ⟨g9, ha9, hc9⟩ := R9.out q (.int .u32 (sp.2.getD 0)) (by rw [hsp]; simp [vls, hsl])
              subst ha8
              subst ha9
              have z8 : wr.cell? ⟨g8, q, none⟩ = some (.int .u32 sp.1) := by have h := gcell HG.out hc8; rwa [Addr.add_mid, Nat.zero_add] at h
              have z9 : wr.cell? ⟨g9, q, none⟩ = some (.int .u32 (sp.2.getD 0)) := by have h := gcell HG.out hc9; rwa [Addr.add_mid, Nat.zero_add] at h
              have n8 : g8 ≠ wr.heap.size := by have := World.block_lt_of_cell? _ _ z8; simp only at this; omega
              have n8' : wr.heap.size ≠ g8 := n8.symm
              have KD := KIND.out sp (by rw [hsp]; exact List.getElem_mem _)
              clear f0 f1 f2 f3 hidx hsp hav hc8 hc9 G89
              rcases KD with h260 | ⟨v, hv, hne, hwf⟩
              · rw [AO.1, h260] at y0
                rw [h260] at z8
                have GA : Hid (wr.grownBy (wr.alloc (.cells #[.int .u32 260, .int .u8 av.flags, .int .u32 av.vendor, .slice av.da av.dl av.dc] 41)) none) := World.grownBy_alloc _ _ _
                have zA8 : (wr.alloc (.cells #[.int .u32 260, .int .u8 av.flags, .int .u32 av.vendor, .slice av.da av.dl av.dc] 41)).cell? ⟨g8, q, none⟩ = some (.int .u32 260) := gcell GA.out z8
                clear AO h260
                go_wp2
                go_roundw
                case rel => exact ⟨q + 1, by omega, by go_num, gtrans HG.out GA.out⟩
                case measure => simp [intOf]; omega
              · have U8 : Hid (U8s w8 av.da 4 (be32 v)) := (AO.2 v hv).2
                rw [(AO.2 v hv).1] at y3
                rw [AO.1] at y0
                rw [hv] at z9
                simp only [Option.getD_some] at z9
                have bv := bounds_u32 hwf
                have BV : Hid (0 ≤ v ∧ v < 4294967296) := ⟨bv.1, by omega⟩
                obtain ⟨cd, hcd⟩ : ∃ cd, cd = sp.1 := ⟨_, rfl⟩
                rw [← hcd] at y0 z8 hne
                have zA8 : (wr.alloc (.cells #[.int .u32 cd, .int .u8 av.flags, .int .u32 av.vendor, .slice av.da 4 av.dc] 41)).cell? ⟨g8, q, none⟩ = some (.int .u32 cd) := gcell (World.grownBy_alloc _ _ _) z8
                clear AO hv hwf bv hcd
                go_wp2_with fail
                clear zA8
                obtain ⟨W2, hW2⟩ : ∃ W2, W2 = wr.alloc (.cells #[.int .u32 cd, .int .u8 av.flags, .int .u32 av.vendor, .slice av.da 4 av.dc] 41) := ⟨_, rfl⟩
                rw [← hW2]
                have GA : Hid (wr.grownBy W2 none) := by show wr.grownBy W2 none; rw [hW2]; exact World.grownBy_alloc _ _ _
                have QB : Hid (W2.heap[wr.heap.size]? = some (.cells #[.int .u32 cd, .int .u8 av.flags, .int .u32 av.vendor, .slice av.da 4 av.dc] 41 (0, 0))) := by show W2.heap[wr.heap.size]? = _; rw [hW2]; exact heap_alloc_new _ _
                clear hW2
                refine suc_r46 (q := wr.heap.size) (x8 := ⟨g8, 0, none⟩) (x9 := ⟨g9, 0, none⟩) (m := M) (k := q) (hq := QB.out) (h8 := by rw [Addr.add_mid, Nat.zero_add]; exact gcell GA.out z8) (h9 := by rw [Addr.add_mid, Nat.zero_add]; exact gcell GA.out z9) (hkm := hlt) (hu := U8.out.grow (gtrans (gtrans (gofBelow HB.out) HG.out) GA.out)) (hv0 := BV.out.1) (hv1 := BV.out.2) (hQ := ?_)
                intros
                rename_i w5 hg5
                have G5 : Hid (w9.grownBy w5 none) := gtrans (gtrans HG.out GA.out) hg5
                clear hg5
                go_wp2
                go_roundw
                case rel => exact ⟨q + 1, by omega, by go_num, G5.out⟩
                case measure => simp [intOf]; omega
            · have hqM : ¬ (q : Int) < (M : Int) := by omega
              go_wp2
              go_ret
              exact ⟨rfl, gtrans G8.out (gtrans (gofBelow HB.out) HG.out)⟩
end Go.Proofs.YbulkaptmDoor
