/-
  (f5) build.
-/
import Derived.Test.YbulkaptmDoorBuild
import Derived.Test.YbulkaptmDoorSpec
import Derived.Test.YbulkaptmDoorBuildB
import Derived.Test.YbulkaptmDoorSmall
import Derived.Laws.CopyOwn
namespace Go.Proofs.YbulkaptmDoor
open Go.RowKit
set_option linter.unusedVariables false
set_option linter.unusedSimpArgs false
set_option maxRecDepth 100000

/-- What build makes. -/
def BuildPostM (fl cmd app hop ete : Int) (ws : Bool) (sa : Option Addr) (sl sc : Nat) (host realm prod : ByteArray) (st i0 i1 i2 i3 port : Int) (ia : Option Addr) (il ic : Nat) (va : Option Addr) (vl vc : Nat) (ids vends sid : List Int) (z : Addr) (w : World) (e : Ending) (w' : World) : Prop :=
  ∃ c s m lo apps sq, e = .returned (.tuple #[.pointer (some ⟨c, 0, none⟩), .pointer (some ⟨m, 0, none⟩)]) ∧ SrvM w' c s host realm prod st lo port z apps ∧ (Lit.int .u64 lo).wf = true ∧ w.heap.size ≤ s ∧
    w'.heap[m]? = some (.cells #[.int .u8 fl, .int .u32 cmd, .int .u32 app, .int .u32 hop, .int .u32 ete, sq] 37 (0, 0)) ∧
    w'.ownsRow w.heap.size 55 2 apps (if vl < il then vl else il) (appCells ids vends (if vl < il then vl else il)) ∧ w.grownBy w' none ∧
    (ws = false → ∃ b cap, sq = .slice (some ⟨b, 0, none⟩) 1 cap ∧ ∀ j u, [Value.int .u32 1, .int .u8 0, .int .u32 0, .slice none 0 0][j]? = some u → w'.cell? ((⟨b, 0, none⟩ : Addr).add j) = some u) ∧
    (ws = true → ∃ b cap da dc, sq = .slice (some ⟨b, 0, none⟩) 2 cap ∧ U8s w' da sl (sid.take sl) ∧ ∀ j u, [Value.int .u32 1, .int .u8 0, .int .u32 0, .slice none 0 0, .int .u32 263, .int .u8 0, .int .u32 0, .slice da sl dc][j]? = some u → w'.cell? ((⟨b, 0, none⟩ : Addr).add j) = some u)

set_option maxHeartbeats 3200000 in
/-- (f5) zzs2066cbuild. -/
theorem build_anyM (fl cmd app hop ete : Int) (ws : Bool) (sa : Option Addr) (sl sc : Nat) (host realm prod : ByteArray) (st i0 i1 i2 i3 port : Int) (ia : Option Addr) (il ic : Nat) (va : Option Addr) (vl vc : Nat) (ids vends sid : List Int) (z : Addr) (w : World) (hil : il ≤ 1024) (hvl : vl ≤ 1024) (hsl : sl ≤ 1024)
    (hI : IsRow .u32 w ia il ic ids) (hV : IsRow .u32 w va vl vc vends) (hSd : IsRow .u8 w sa sl sc sid) (hz : Zs w z)
    (hr : (0 ≤ i0 ∧ i0 ≤ 255) ∧ (0 ≤ i1 ∧ i1 ≤ 255) ∧ (0 ≤ i2 ∧ i2 ≤ 255) ∧ (0 ≤ i3 ∧ i3 ≤ 255)) :
    Calls Ybad.prog 5 #[.agg #[.int .u8 fl, .int .u32 cmd, .int .u32 app, .int .u32 hop, .int .u32 ete, .bool ws, .slice sa sl sc, .string host, .string realm, .string prod, .int .u32 st, .int .u8 i0, .int .u8 i1, .int .u8 i2, .int .u8 i3, .int .u16 port, .slice ia il ic, .slice va vl vc]] w (BuildPostM fl cmd app hop ete ws sa sl sc host realm prod st i0 i1 i2 i3 port ia il ic va vl vc ids vends sid z w) := by
  have HI : Hid (IsRow .u32 w ia il ic ids ∧ IsRow .u32 w va vl vc vends ∧ IsRow .u8 w sa sl sc sid) := ⟨hI, hV, hSd⟩
  have HZ : Hid (Zs w z) := hz
  have HR : Hid ((0 ≤ i0 ∧ i0 ≤ 255) ∧ (0 ≤ i1 ∧ i1 ≤ 255) ∧ (0 ≤ i2 ∧ i2 ≤ 255) ∧ (0 ≤ i3 ∧ i3 ≤ 255)) := hr
  have HL : Hid (il ≤ 1024 ∧ vl ≤ 1024 ∧ sl ≤ 1024) := ⟨hil, hvl, hsl⟩
  obtain ⟨i55, hi, hz0, hz1, hz2⟩ := info_parts info55
  obtain ⟨j41, hj, hy0, hy1, hy2⟩ := info_parts info41
  obtain ⟨k5, hk5, hx0, hx1, hx2⟩ := info_parts info5
  clear hI hV hSd hz hr hil hvl hsl
  go_enter Ybad.func5, Ybad.ntmps5
  go_wp2_with (with_reducible refine wpList_load_mid rfl 28 (.tmp 1) rfl w.heap.size 0 ?hx [.int .u8 fl, .int .u32 cmd, .int .u32 app, .int .u32 hop, .int .u32 ete, .bool ws, .slice sa sl sc, .string host, .string realm, .string prod, .int .u32 st, .int .u8 i0, .int .u8 i1, .int .u8 i2, .int .u8 i3, .int .u16 port, .slice ia il ic, .slice va vl vc] _ ?hc Ybad.underlying28 ?hd ?hi ?_)
  case hx => rfl
  case hc => exact range_block (heap_alloc_new _ _)
  case hd => rfl
  case hi => exact size28
  go_wp2_with fail
  refine (n_any fl cmd app hop ete ws sa sl sc host realm prod st i0 i1 i2 i3 port ia il ic va vl vc _ (by have := HL.out.1; omega) (by have := HL.out.2.1; omega)).mono ?_
  rintro e w1 ⟨rfl, hg1⟩
  obtain ⟨n, hn⟩ : ∃ n, n = (if vl < il then vl else il) := ⟨_, rfl⟩
  rw [← hn]
  have HN : Hid (n = (if vl < il then vl else il)) := hn
  have hn1 : n ≤ il := by rw [hn]; split <;> omega
  have hn2 : n ≤ vl := by rw [hn]; split <;> omega
  have hn3 : n ≤ 1024 := by have := HL.out.1; omega
  have K1 : Hid (w1.heap[w.heap.size]? = some (.cells #[.int .u8 fl, .int .u32 cmd, .int .u32 app, .int .u32 hop, .int .u32 ete, .bool ws, .slice sa sl sc, .string host, .string realm, .string prod, .int .u32 st, .int .u8 i0, .int .u8 i1, .int .u8 i2, .int .u8 i3, .int .u16 port, .slice ia il ic, .slice va vl vc] 28 (0, 0))) := gblockN hg1 (heap_alloc_new _ _)
  have G1 : Hid (w.grownBy w1 none) := gtrans (World.grownBy_alloc _ _ _) hg1
  clear hn hg1
  go_wp2_with (at_make; refine wpList_make_own _ rfl _ _ 53 rfl w.heap.size 55 i55 (.agg #[.int .u32 0, .int .u32 0]) 2 Ybad.underlying53 hi hz0 hz1 _ _ _ n rfl rfl ?c0 ?c1 ?c2 ?c3 ?_)
  case c0 => rfl
  case c1 => rw [hz2]; omega
  case c2 => unfold maxLen; omega
  case c3 => exact G1.out.size
  intro w2 hown2 hg2
  have HO2 : Hid (w2.ownsRow w.heap.size 55 2 (.slice (some ⟨w1.heap.size, 0, none⟩) 0 n) 0 []) := hown2
  have K2 : Hid (w2.heap[w.heap.size]? = some (.cells #[.int .u8 fl, .int .u32 cmd, .int .u32 app, .int .u32 hop, .int .u32 ete, .bool ws, .slice sa sl sc, .string host, .string realm, .string prod, .int .u32 st, .int .u8 i0, .int .u8 i1, .int .u8 i2, .int .u8 i3, .int .u16 port, .slice ia il ic, .slice va vl vc] 28 (0, 0))) := gblockN hg2 K1.out
  have G2 : Hid (Below w.heap.size w w2) := gbelow (gtrans G1.out hg2) (Nat.le_refl _) (by intro k hk; cases hk)
  clear hown2 hg2 K1
  go_wp2_with fail
  go_loopw [5, 6] (fun d i wr => ∃ k : Nat, k ≤ n ∧ i = .int .i64 k ∧ Hid (wr.ownsRow w.heap.size 55 2 d k (appCells ids vends k)) ∧ Hid (wr.heap[w.heap.size]? = some (.cells #[.int .u8 fl, .int .u32 cmd, .int .u32 app, .int .u32 hop, .int .u32 ete, .bool ws, .slice sa sl sc, .string host, .string realm, .string prod, .int .u32 st, .int .u8 i0, .int .u8 i1, .int .u8 i2, .int .u8 i3, .int .u16 port, .slice ia il ic, .slice va vl vc] 28 (0, 0))) ∧ Hid (Below w.heap.size w wr)) (fun _ i _ => n - (intOf i).toNat)
  case atStart => exact ⟨0, Nat.zero_le _, rfl, HO2.out, K2.out, G2.out⟩
  case round =>
    obtain ⟨k, hk, rfl, HO, HK, HB⟩ := hrel
    clear HO2 K2 G2
    by_cases hlt : k < n
    · have hlt' : (k : Int) < (n : Int) := by omega
      obtain ⟨xi, hxi, hci, hbi⟩ := isRow_cells HI.out.1 HB.out (j := k) (by omega)
      obtain ⟨xv, hxv, hcv, hbv⟩ := isRow_cells HI.out.2.1 HB.out (j := k) (by omega)
      subst hxi
      subst hxv
      have HC : Hid ((wr.cell? (xi.add k) = some (.int .u32 (ids.getD k 0)) ∧ (xi.add k).block < w.heap.size) ∧ wr.cell? (xv.add k) = some (.int .u32 (vends.getD k 0)) ∧ (xv.add k).block < w.heap.size) := ⟨⟨hci, hbi⟩, hcv, hbv⟩
      clear hci hcv hbi hbv
      go_wp2_with fail
      refine build_r6 (B := w.heap.size) (k := k) (xi := xi) (xv := xv) (ic := ic) (vc := vc) (il := il) (vl := vl) (id := ids.getD k 0) (vd := vends.getD k 0) (xs := appCells ids vends k) (hS := ?hS) (hown := HO.out) (hk := by omega) (hB := HB.out.size) (hki := by omega) (hkv := by omega) (hQ := ?_)
      case hS =>
        intro w' hg
        have hb := gblock hg HK.out (own_neG HO.out HK.out (by decide))
        exact ⟨cellOf hb, cellOf hb, gcellR hg HC.out.1.1 (by intro e; have := (HO.out.lt _ e.symm).1; have := HC.out.1.2; omega), gcellR hg HC.out.2.1 (by intro e; have := (HO.out.lt _ e.symm).1; have := HC.out.2.2; omega)⟩
      intros
      rename_i sv' w' hown' hg'
      have HO' : Hid (w'.ownsRow w.heap.size 55 2 sv' (k + 1) (appCells ids vends (k + 1))) := by show w'.ownsRow w.heap.size 55 2 sv' (k + 1) (appCells ids vends (k + 1)); rw [appCells_succ]; exact hown'
      have HK' : Hid (w'.heap[w.heap.size]? = some (.cells #[.int .u8 fl, .int .u32 cmd, .int .u32 app, .int .u32 hop, .int .u32 ete, .bool ws, .slice sa sl sc, .string host, .string realm, .string prod, .int .u32 st, .int .u8 i0, .int .u8 i1, .int .u8 i2, .int .u8 i3, .int .u16 port, .slice (some xi) il ic, .slice (some xv) vl vc] 28 (0, 0))) := gblock hg' HK.out (own_neG HO.out HK.out (by decide))
      have HB' : Hid (Below w.heap.size w w') := HB.out.grown hg' HB.out.size (fun k hk => (HO.out.lt _ hk).1)
      clear hown' hg' HO HK HB HC
      go_wp2
      go_roundw
      case rel => exact ⟨k + 1, by omega, by go_num, HO', HK', HB'⟩
      case measure => simp [intOf]; omega
    · have hlt' : ¬ (k : Int) < (n : Int) := by omega
      have hkn : k = n := by omega
      subst hkn
      obtain ⟨ao, al, ac, hu5⟩ := own_form HO.out
      subst hu5
      have d7 : wr.cell? ⟨w.heap.size, 7, none⟩ = some (.string host) := cellOf HK.out
      have d8 : wr.cell? ⟨w.heap.size, 8, none⟩ = some (.string realm) := cellOf HK.out
      have d9 : wr.cell? ⟨w.heap.size, 9, none⟩ = some (.string prod) := cellOf HK.out
      have d10 : wr.cell? ⟨w.heap.size, 10, none⟩ = some (.int .u32 st) := cellOf HK.out
      clear hlt
      go_wp2_with fail
      obtain ⟨w7, hw7⟩ : ∃ w7, w7 = wr.alloc (.cells #[.string host, .string realm, .string prod, .nilFunc, .nilIface, .pointer none, .int .i64 0, .int .u32 0, .int .i32 0, .int .u32 0, .int .u32 st, .int .u32 0, .int .u32 0, .int .u64 0, .int .i32 0, .int .u32 0, .map none, .slice ao al ac, .nilIface, .map none, .map none, .bool false, .int .u64 0, .int .u32 0] 88) := ⟨_, rfl⟩
      rw [← hw7]
      have G7 : Hid (wr.grownBy w7 none) := by show wr.grownBy w7 none; rw [hw7]; exact World.grownBy_alloc _ _ _
      have S7 : Hid (∃ sc, w7.heap[wr.heap.size]? = some (.cells sc 88 (0, 0)) ∧ sc[0]? = some (.string host) ∧ sc[1]? = some (.string realm) ∧ sc[2]? = some (.string prod) ∧ sc[10]? = some (.int .u32 st) ∧ sc[17]? = some (.slice ao al ac) ∧ sc[14]? = some (.int .i32 0)) := by
        show (∃ sc, w7.heap[wr.heap.size]? = some (.cells sc 88 (0, 0)) ∧ sc[0]? = some (.string host) ∧ sc[1]? = some (.string realm) ∧ sc[2]? = some (.string prod) ∧ sc[10]? = some (.int .u32 st) ∧ sc[17]? = some (.slice ao al ac) ∧ sc[14]? = some (.int .i32 0))
        rw [hw7]
        exact ⟨_, heap_alloc_new _ _, rfl, rfl, rfl, rfl, rfl, rfl⟩
      have K7 : Hid (w7.heap[w.heap.size]? = some (.cells #[.int .u8 fl, .int .u32 cmd, .int .u32 app, .int .u32 hop, .int .u32 ete, .bool ws, .slice sa sl sc, .string host, .string realm, .string prod, .int .u32 st, .int .u8 i0, .int .u8 i1, .int .u8 i2, .int .u8 i3, .int .u16 port, .slice ia il ic, .slice va vl vc] 28 (0, 0))) := gblockN G7.out HK.out
      have HB7 : Hid (Below w.heap.size w w7) := HB.out.grown G7.out HB.out.size (by intro k hk; cases hk)
      clear hw7 d7 d8 d9 d10
      refine build_r8 (s := wr.heap.size) (z := z) (hin := K7.out) (hz := HZ.out.under HB7.out) (hr := HR.out) (hQ := ?_)
      intros
      rename_i c lo w8 hlo hg8 hcb
      have SR8 : Hid (SrvM w8 c wr.heap.size host realm prod st lo port z (.slice ao al ac)) := ⟨hcb, by obtain ⟨sc, h1, h2⟩ := S7.out; exact ⟨sc, gblockN hg8 h1, h2⟩⟩
      have K8 : Hid (w8.heap[w.heap.size]? = some (.cells #[.int .u8 fl, .int .u32 cmd, .int .u32 app, .int .u32 hop, .int .u32 ete, .bool ws, .slice sa sl sc, .string host, .string realm, .string prod, .int .u32 st, .int .u8 i0, .int .u8 i1, .int .u8 i2, .int .u8 i3, .int .u16 port, .slice ia il ic, .slice va vl vc] 28 (0, 0))) := gblockN hg8 K7.out
      have HO8 : Hid (w8.ownsRow w.heap.size 55 2 (.slice ao al ac) k (appCells ids vends k)) := keptN HO.out (gtrans G7.out hg8)
      have HB8 : Hid (Below w.heap.size w w8) := HB7.out.grown hg8 HB7.out.size (by intro k hk; cases hk)
      have HLO : Hid ((Lit.int .u64 lo).wf = true) := hlo
      have HSZ : Hid (w.heap.size ≤ wr.heap.size) := HB.out.size
      clear hlo hg8 hcb HO HK HB G7 S7 K7 HB7
      have n8 : w.heap.size < w8.heap.size := lt_of_block K8.out
      have n81 : w.heap.size ≠ w8.heap.size := by omega
      have n82 : w8.heap.size ≠ w.heap.size := by omega
      have d0 : w8.cell? ⟨w.heap.size, 0, none⟩ = some (.int .u8 fl) := cellOf K8.out
      have d1 : w8.cell? ⟨w.heap.size, 1, none⟩ = some (.int .u32 cmd) := cellOf K8.out
      have d2 : w8.cell? ⟨w.heap.size, 2, none⟩ = some (.int .u32 app) := cellOf K8.out
      have d3 : w8.cell? ⟨w.heap.size, 3, none⟩ = some (.int .u32 hop) := cellOf K8.out
      have d4 : w8.cell? ⟨w.heap.size, 4, none⟩ = some (.int .u32 ete) := cellOf K8.out
      have d5 : w8.cell? ⟨w.heap.size, 5, none⟩ = some (.bool ws) := cellOf K8.out
      have d6 : w8.cell? ⟨w.heap.size, 6, none⟩ = some (.slice sa sl sc) := cellOf K8.out
      cases ws with
      | false =>
        go_wp2
        go_ret2
        have g9 : w8.grownBy ((w8.alloc (.cells #[.int .u32 1, .int .u8 0, .int .u32 0, .slice none 0 0] 41)).alloc (.cells #[.int .u8 fl, .int .u32 cmd, .int .u32 app, .int .u32 hop, .int .u32 ete, .slice (some ⟨w8.heap.size, 0, none⟩) 1 1] 37)) none := gtrans (World.grownBy_alloc _ _ _) (World.grownBy_alloc _ _ _)
        refine ⟨c, _, w8.heap.size + 1, lo, _, .slice (some ⟨w8.heap.size, 0, none⟩) 1 1, rfl, SR8.out.grow g9, HLO.out, HSZ.out, ?_, ?_, ?_, ?_, ?_⟩
        · have := heap_alloc_new (w8.alloc (.cells #[.int .u32 1, .int .u8 0, .int .u32 0, .slice none 0 0] 41)) (.cells #[.int .u8 fl, .int .u32 cmd, .int .u32 app, .int .u32 hop, .int .u32 ete, .slice (some ⟨w8.heap.size, 0, none⟩) 1 1] 37)
          simpa using this
        · rw [← HN.out]; exact keptN HO8.out g9
        · exact gofBelow (HB8.out.grown g9 HB8.out.size (by intro k hk; cases hk))
        · intro _
          exact ⟨_, _, rfl, World.news_of_block (gblockN (World.grownBy_alloc _ _ _) (heap_alloc_new w8 (.cells #[.int .u32 1, .int .u8 0, .int .u32 0, .slice none 0 0] 41)))⟩
        · intro h; cases h
      | true =>
        go_wp2_with (at_make; refine wpList_make_full _ rfl _ _ 23 rfl w.heap.size 5 k5 (.int .u8 0) 1 Ybad.underlying23 hk5 hx0 hx1 _ _ _ _ sl rfl rfl ?m0 ?m1 ?m2 ?m3 ?m4 ?_)
        case m0 => rfl
        case m1 => rfl
        case m2 => rw [hx2]; have := HL.out.2.2; omega
        case m3 => have := HL.out.2.2; unfold maxLen; omega
        case m4 => simp; omega
        intro w10 hown10 hg10
        obtain ⟨g10, hg10e⟩ : ∃ g10, g10 = w8.heap.size + 1 := ⟨_, rfl⟩
        rw [← hg10e] at hown10
        rw [← hg10e]
        have hgw : w8.heap.size < g10 := by omega
        have R10 : Hid ((∃ cur, w10.heap[g10]? = some (.cells cur 5 (0, 0)) ∧ cur.size = sl)) := by
          show ∃ cur, w10.heap[g10]? = some (.cells cur 5 (0, 0)) ∧ cur.size = sl
          rcases hown10.2 with ⟨h, _⟩ | ⟨g, cap, cur, hv, _, hb, _, _, hcs, _⟩
          · cases h
          · cases hv; exact ⟨cur, hb, by simpa using hcs⟩
        have g810 : w8.grownBy w10 none := gtrans (World.grownBy_alloc _ _ _) hg10
        have K10 : Hid (w10.heap[w.heap.size]? = some (.cells #[.int .u8 fl, .int .u32 cmd, .int .u32 app, .int .u32 hop, .int .u32 ete, .bool true, .slice sa sl sc, .string host, .string realm, .string prod, .int .u32 st, .int .u8 i0, .int .u8 i1, .int .u8 i2, .int .u8 i3, .int .u16 port, .slice ia il ic, .slice va vl vc] 28 (0, 0))) := gblockN g810 K8.out
        have A10 : Hid (w10.heap[w8.heap.size]? = some (.cells #[.int .u32 1, .int .u8 0, .int .u32 0, .slice none 0 0] 41 (0, 0))) := gblockN hg10 (heap_alloc_new _ _)
        have SR10 : Hid (SrvM w10 c wr.heap.size host realm prod st lo port z (.slice ao al ac)) := SR8.out.grow g810
        have HO10 : Hid (w10.ownsRow w.heap.size 55 2 (.slice ao al ac) k (appCells ids vends k)) := keptN HO8.out g810
        have HB10 : Hid (Below w.heap.size w w10) := HB8.out.grown g810 HB8.out.size (by intro k hk; cases hk)
        have SB10 : Hid (∀ j, j < sl → ∃ x, sa = some x ∧ w10.cell? (x.add j) = some (.int .u8 (sid.getD j 0)) ∧ (x.add j).block < w.heap.size) := fun j hj => isRow_cells HI.out.2.2 HB10.out hj
        have HSL : Hid (sl ≤ sid.length ∧ (sa = none → sl = 0)) := by
          show sl ≤ sid.length ∧ (sa = none → sl = 0)
          rcases HI.out.2.2 with ⟨h1, h2, h3, h4⟩ | ⟨x, h1, h2, h3, h4, h5, h6⟩
          · rw [h2]; exact ⟨Nat.zero_le _, fun _ => rfl⟩
          · exact ⟨by omega, by intro h; rw [h] at h1; cases h1⟩
        have e6 : w10.cell? ⟨w.heap.size, 6, none⟩ = some (.slice sa sl sc) := cellOf K10.out
        clear hown10 hg10 g810 K8 SR8 HO8 HB8 d0 d1 d2 d3 d4 d5 d6 hg10e
        obtain ⟨cur, hcur, hcs⟩ := R10.out
        have R10 : Hid (w10.heap[g10]? = some (.cells cur 5 (0, 0)) ∧ cur.size = sl) := ⟨hcur, hcs⟩
        clear hcur hcs
        have SZ5 : Hid ((Ybad.prog.info? 5).map (·.size) = some 1) := by show (Ybad.prog.info? 5).map (·.size) = some 1; rw [hk5]; simp [hx1]
        cases sa with
        | none =>
          have hs0 : Hid (sl = 0) := HSL.out.2 rfl
          have QN : Hid (Nat.min sl sl = 0) := by show Nat.min sl sl = 0; rw [hs0.out]; rfl
          go_wp2_with (with_reducible refine copy_none' rfl (.tmp 64) (.tmp 66) 23 23 rfl 5 Ybad.underlying23 SZ5.out (some ⟨g10, 0, none⟩) none sl sl sl sc ?q2 ?q3 QN.out ?_)
          try (case q2 => rfl)
          try (case q3 => rfl)
          intro w11 hw11
          have HG11 : Hid (w10.grownBy w11 (some g10)) := by show w10.grownBy w11 (some g10); rw [hw11.out]; exact World.grownBy.refl _ _
          have U11 : Hid (U8s w11 (some ⟨g10, 0, none⟩) sl (sid.take sl)) := by
            show U8s w11 (some ⟨g10, 0, none⟩) sl (sid.take sl)
            rw [hw11.out]
            refine ⟨by rw [hs0.out]; rfl, g10, cur, rfl, R10.out.1, ?_⟩
            rw [hs0.out]; rfl
          clear hw11 e6
          have K11 : Hid (w11.heap[w.heap.size]? = some (.cells #[.int .u8 fl, .int .u32 cmd, .int .u32 app, .int .u32 hop, .int .u32 ete, .bool true, .slice none sl sc, .string host, .string realm, .string prod, .int .u32 st, .int .u8 i0, .int .u8 i1, .int .u8 i2, .int .u8 i3, .int .u16 port, .slice ia il ic, .slice va vl vc] 28 (0, 0))) := gblockT HG11.out R10.out.1 K10.out (by decide)
          have A11 : Hid (w11.heap[w8.heap.size]? = some (.cells #[.int .u32 1, .int .u8 0, .int .u32 0, .slice none 0 0] 41 (0, 0))) := gblockT HG11.out R10.out.1 A10.out (by decide)
          have SR11 : Hid (SrvM w11 c wr.heap.size host realm prod st lo port z (.slice ao al ac)) := SR10.out.of_blocks (fun k cs t f hk ht => gblockT HG11.out R10.out.1 hk (by rcases ht with rfl | rfl <;> decide))
          have HO11 : Hid (w11.ownsRow w.heap.size 55 2 (.slice ao al ac) k (appCells ids vends k)) := keptT HO10.out HG11.out R10.out.1 (by decide)
          have HB11 : Hid (Below w.heap.size w w11) := HB10.out.grown HG11.out HB10.out.size (by intro k hk; cases hk; omega)
          have n11 : w8.heap.size < w11.heap.size := lt_of_block A11.out
          clear K10 A10 SR10 HO10 HB10 HG11 R10
          go_wp2_with (at_builtin; refine wpList_append_own _ rfl (.tmp 68) (.tmp 71) 35 rfl w.heap.size 41 j41 (.agg #[.int .u32 0, .int .u8 0, .int .u32 0, .slice none 0 0]) 4 40 Ybad.underlying35 hj hy0 hy1 hy2 rfl (by decide) (.slice (some ⟨w8.heap.size, 0, none⟩) 1 1) 1 [.int .u32 1, .int .u8 0, .int .u32 0, .slice none 0 0] rfl ?e0 ⟨w11.heap.size, 0, none⟩ 1 1 [.int .u32 263, .int .u8 0, .int .u32 0, .slice (some ⟨g10, 0, none⟩) sl sl] rfl rfl ?e1 ?e2 ?e3 ?e4 ?e5 ?_)
          case e0 => exact ⟨rfl, .inr ⟨w8.heap.size, 1, _, rfl, by omega, gblockN (World.grownBy_alloc _ _ _) A11.out, by omega, by unfold maxLen; omega, rfl, rfl⟩⟩
          case e1 => exact World.news_of_block (heap_alloc_new w11 (.cells [.int .u32 263, .int .u8 0, .int .u32 0, .slice (some ⟨g10, 0, none⟩) sl sl].toArray 41))
          case e2 => (intro u hu; simp only [List.mem_cons, List.not_mem_nil, or_false] at hu; rcases hu with rfl | rfl | rfl | rfl <;> rfl)
          case e3 => unfold maxLen; omega
          case e4 => omega
          case e5 => (simp; omega)
          intro v13 w13 hown13 hg13 _
          have A12 : Hid ((w11.alloc (.cells [.int .u32 263, .int .u8 0, .int .u32 0, .slice (some ⟨g10, 0, none⟩) sl sl].toArray 41)).heap[w8.heap.size]? = some (.cells #[.int .u32 1, .int .u8 0, .int .u32 0, .slice none 0 0] 41 (0, 0))) := gblockN (World.grownBy_alloc _ _ _) A11.out
          have g12 : w11.grownBy (w11.alloc (.cells [.int .u32 263, .int .u8 0, .int .u32 0, .slice (some ⟨g10, 0, none⟩) sl sl].toArray 41)) none := World.grownBy_alloc _ _ _
          have K13 : Hid (w13.heap[w.heap.size]? = some (.cells #[.int .u8 fl, .int .u32 cmd, .int .u32 app, .int .u32 hop, .int .u32 ete, .bool true, .slice none sl sc, .string host, .string realm, .string prod, .int .u32 st, .int .u8 i0, .int .u8 i1, .int .u8 i2, .int .u8 i3, .int .u16 port, .slice ia il ic, .slice va vl vc] 28 (0, 0))) := gblockT hg13 A12.out (gblockN g12 K11.out) (by decide)
          have SR13 : Hid (SrvM w13 c wr.heap.size host realm prod st lo port z (.slice ao al ac)) := (SR11.out.grow g12).of_blocks (fun k cs t f hk ht => gblockT hg13 A12.out hk (by rcases ht with rfl | rfl <;> decide))
          have HO13 : Hid (w13.ownsRow w.heap.size 55 2 (.slice ao al ac) k (appCells ids vends k)) := keptT (keptN HO11.out g12) hg13 A12.out (by decide)
          have HB13 : Hid (Below w.heap.size w w13) := (HB11.out.grown g12 HB11.out.size (by intro k hk; cases hk)).grown hg13 (by simp; omega) (by intro k hk; simp only [Value.ownBlock, Option.some.injEq] at hk; omega)
          have U13 : Hid (U8s w13 (some ⟨g10, 0, none⟩) sl (sid.take sl)) := (U11.out.grow g12).frame hg13 A12.out (by decide)
          obtain ⟨gz, cz, hv13, hc13⟩ := own_cells hown13 (by decide)
          subst hv13
          have C13 : Hid (∀ j u, ([.int .u32 1, .int .u8 0, .int .u32 0, .slice none 0 0] ++ [.int .u32 263, .int .u8 0, .int .u32 0, .slice (some ⟨g10, 0, none⟩) sl sl])[j]? = some u → w13.cell? ((⟨gz, 0, none⟩ : Addr).add j) = some u) := hc13
          clear hown13 hg13 g12 A12 hc13 K11 A11 SR11 HO11 HB11 U11
          have f0 : w13.cell? ⟨w.heap.size, 0, none⟩ = some (.int .u8 fl) := cellOf K13.out
          have f1 : w13.cell? ⟨w.heap.size, 1, none⟩ = some (.int .u32 cmd) := cellOf K13.out
          have f2 : w13.cell? ⟨w.heap.size, 2, none⟩ = some (.int .u32 app) := cellOf K13.out
          have f3 : w13.cell? ⟨w.heap.size, 3, none⟩ = some (.int .u32 hop) := cellOf K13.out
          have f4 : w13.cell? ⟨w.heap.size, 4, none⟩ = some (.int .u32 ete) := cellOf K13.out
          go_wp2
          go_ret2
          have g14 : w13.grownBy (w13.alloc (.cells #[.int .u8 fl, .int .u32 cmd, .int .u32 app, .int .u32 hop, .int .u32 ete, .slice (some ⟨gz, 0, none⟩) (1 + 1) cz] 37)) none := World.grownBy_alloc _ _ _
          refine ⟨c, _, w13.heap.size, lo, _, .slice (some ⟨gz, 0, none⟩) (1 + 1) cz, rfl, SR13.out.grow g14, HLO.out, HSZ.out, heap_alloc_new _ _, ?_, ?_, ?_, ?_⟩
          · rw [← HN.out]; exact keptN HO13.out g14
          · exact gofBelow (HB13.out.grown g14 HB13.out.size (by intro k hk; cases hk))
          · intro h; cases h
          · intro _
            exact ⟨_, _, _, _, rfl, U13.out.grow g14, fun j u h => gcell g14 (C13.out j u h)⟩

        | some x =>
          have CS : Hid (((sid.take sl).map (Value.int .u8)).length = Nat.min sl sl) := by
            show ((sid.take sl).map (Value.int .u8)).length = Nat.min sl sl
            have := HSL.out.1
            simp [Nat.min_def]; omega
          have QS : Hid (∀ j v, ((sid.take sl).map (Value.int .u8))[j]? = some v → w10.cell? (x.add j) = some v) := by
            show ∀ j v, ((sid.take sl).map (Value.int .u8))[j]? = some v → w10.cell? (x.add j) = some v
            intro j v hv
            have hj : j < sl := by
              rcases Nat.lt_or_ge j sl with h | h
              · exact h
              · rw [List.getElem?_eq_none (by simp; omega)] at hv; cases hv
            obtain ⟨x', hx', hc', _⟩ := SB10.out j hj
            cases hx'
            rw [hc']
            have hjl : j < sid.length := by have := HSL.out.1; omega
            simp only [List.getElem?_map, List.getElem?_take_of_lt hj, List.getElem?_eq_getElem hjl, Option.map_some, Option.some.injEq] at hv
            rw [← hv, List.getD_eq_getElem?_getD, List.getElem?_eq_getElem hjl, Option.getD_some]
          have QF : Hid (0 + ((sid.take sl).map (Value.int .u8)).length ≤ cur.size) := by
            show 0 + ((sid.take sl).map (Value.int .u8)).length ≤ cur.size
            rw [CS.out, R10.out.2]; simp [Nat.min_def]
          go_wp2_with (with_reducible refine copy_row' rfl (.tmp 64) (.tmp 66) 23 23 rfl 5 Ybad.underlying23 SZ5.out g10 0 sl sl x sl sc ?r2 ?r3 cur 5 R10.out.1 ((sid.take sl).map (Value.int .u8)) CS.out QS.out QF.out (ints_oneCell _ _) ?_)
          try (case r2 => rfl)
          try (case r3 => rfl)
          intro w11 hw11
          have HG11 : Hid (w10.grownBy w11 (some g10)) := by
            show w10.grownBy w11 (some g10)
            rw [hw11.out]
            exact ⟨rfl, rfl, rfl, by simp, fun k _ hne => setRow_other _ _ _ _ (by intro e; exact hne (by rw [e]))⟩
          have U11 : Hid (U8s w11 (some ⟨g10, 0, none⟩) sl (sid.take sl)) := by
            show U8s w11 (some ⟨g10, 0, none⟩) sl (sid.take sl)
            rw [hw11.out]
            refine ⟨by have := HSL.out.1; simp; omega, g10, _, rfl, setRow_heap _ _ _ _ _ _ R10.out.1, ?_⟩
            have : (sid.take sl).length = ((sid.take sl).map (Value.int .u8)).length := by simp
            rw [this]
            simp
          clear hw11 e6 CS
          have K11 : Hid (w11.heap[w.heap.size]? = some (.cells #[.int .u8 fl, .int .u32 cmd, .int .u32 app, .int .u32 hop, .int .u32 ete, .bool true, .slice (some x) sl sc, .string host, .string realm, .string prod, .int .u32 st, .int .u8 i0, .int .u8 i1, .int .u8 i2, .int .u8 i3, .int .u16 port, .slice ia il ic, .slice va vl vc] 28 (0, 0))) := gblockT HG11.out R10.out.1 K10.out (by decide)
          have A11 : Hid (w11.heap[w8.heap.size]? = some (.cells #[.int .u32 1, .int .u8 0, .int .u32 0, .slice none 0 0] 41 (0, 0))) := gblockT HG11.out R10.out.1 A10.out (by decide)
          have SR11 : Hid (SrvM w11 c wr.heap.size host realm prod st lo port z (.slice ao al ac)) := SR10.out.of_blocks (fun k cs t f hk ht => gblockT HG11.out R10.out.1 hk (by rcases ht with rfl | rfl <;> decide))
          have HO11 : Hid (w11.ownsRow w.heap.size 55 2 (.slice ao al ac) k (appCells ids vends k)) := keptT HO10.out HG11.out R10.out.1 (by decide)
          have HB11 : Hid (Below w.heap.size w w11) := HB10.out.grown HG11.out HB10.out.size (by intro k hk; cases hk; omega)
          have n11 : w8.heap.size < w11.heap.size := lt_of_block A11.out
          clear K10 A10 SR10 HO10 HB10 HG11 R10
          go_wp2_with (at_builtin; refine wpList_append_own _ rfl (.tmp 68) (.tmp 71) 35 rfl w.heap.size 41 j41 (.agg #[.int .u32 0, .int .u8 0, .int .u32 0, .slice none 0 0]) 4 40 Ybad.underlying35 hj hy0 hy1 hy2 rfl (by decide) (.slice (some ⟨w8.heap.size, 0, none⟩) 1 1) 1 [.int .u32 1, .int .u8 0, .int .u32 0, .slice none 0 0] rfl ?h0 ⟨w11.heap.size, 0, none⟩ 1 1 [.int .u32 263, .int .u8 0, .int .u32 0, .slice (some ⟨g10, 0, none⟩) sl sl] rfl rfl ?h1 ?h2 ?h3 ?h4 ?h5 ?_)
          case h0 => exact ⟨rfl, .inr ⟨w8.heap.size, 1, _, rfl, by omega, gblockN (World.grownBy_alloc _ _ _) A11.out, by omega, by unfold maxLen; omega, rfl, rfl⟩⟩
          case h1 => exact World.news_of_block (heap_alloc_new w11 (.cells [.int .u32 263, .int .u8 0, .int .u32 0, .slice (some ⟨g10, 0, none⟩) sl sl].toArray 41))
          case h2 => (intro u hu; simp only [List.mem_cons, List.not_mem_nil, or_false] at hu; rcases hu with rfl | rfl | rfl | rfl <;> rfl)
          case h3 => unfold maxLen; omega
          case h4 => omega
          case h5 => (simp; omega)
          intro v13 w13 hown13 hg13 _
          have A12 : Hid ((w11.alloc (.cells [.int .u32 263, .int .u8 0, .int .u32 0, .slice (some ⟨g10, 0, none⟩) sl sl].toArray 41)).heap[w8.heap.size]? = some (.cells #[.int .u32 1, .int .u8 0, .int .u32 0, .slice none 0 0] 41 (0, 0))) := gblockN (World.grownBy_alloc _ _ _) A11.out
          have g12 : w11.grownBy (w11.alloc (.cells [.int .u32 263, .int .u8 0, .int .u32 0, .slice (some ⟨g10, 0, none⟩) sl sl].toArray 41)) none := World.grownBy_alloc _ _ _
          have K13 : Hid (w13.heap[w.heap.size]? = some (.cells #[.int .u8 fl, .int .u32 cmd, .int .u32 app, .int .u32 hop, .int .u32 ete, .bool true, .slice (some x) sl sc, .string host, .string realm, .string prod, .int .u32 st, .int .u8 i0, .int .u8 i1, .int .u8 i2, .int .u8 i3, .int .u16 port, .slice ia il ic, .slice va vl vc] 28 (0, 0))) := gblockT hg13 A12.out (gblockN g12 K11.out) (by decide)
          have SR13 : Hid (SrvM w13 c wr.heap.size host realm prod st lo port z (.slice ao al ac)) := (SR11.out.grow g12).of_blocks (fun k cs t f hk ht => gblockT hg13 A12.out hk (by rcases ht with rfl | rfl <;> decide))
          have HO13 : Hid (w13.ownsRow w.heap.size 55 2 (.slice ao al ac) k (appCells ids vends k)) := keptT (keptN HO11.out g12) hg13 A12.out (by decide)
          have HB13 : Hid (Below w.heap.size w w13) := (HB11.out.grown g12 HB11.out.size (by intro k hk; cases hk)).grown hg13 (by simp; omega) (by intro k hk; simp only [Value.ownBlock, Option.some.injEq] at hk; omega)
          have U13 : Hid (U8s w13 (some ⟨g10, 0, none⟩) sl (sid.take sl)) := (U11.out.grow g12).frame hg13 A12.out (by decide)
          obtain ⟨gz, cz, hv13, hc13⟩ := own_cells hown13 (by decide)
          subst hv13
          have C13 : Hid (∀ j u, ([.int .u32 1, .int .u8 0, .int .u32 0, .slice none 0 0] ++ [.int .u32 263, .int .u8 0, .int .u32 0, .slice (some ⟨g10, 0, none⟩) sl sl])[j]? = some u → w13.cell? ((⟨gz, 0, none⟩ : Addr).add j) = some u) := hc13
          clear hown13 hg13 g12 A12 hc13 K11 A11 SR11 HO11 HB11 U11
          have f0 : w13.cell? ⟨w.heap.size, 0, none⟩ = some (.int .u8 fl) := cellOf K13.out
          have f1 : w13.cell? ⟨w.heap.size, 1, none⟩ = some (.int .u32 cmd) := cellOf K13.out
          have f2 : w13.cell? ⟨w.heap.size, 2, none⟩ = some (.int .u32 app) := cellOf K13.out
          have f3 : w13.cell? ⟨w.heap.size, 3, none⟩ = some (.int .u32 hop) := cellOf K13.out
          have f4 : w13.cell? ⟨w.heap.size, 4, none⟩ = some (.int .u32 ete) := cellOf K13.out
          go_wp2
          go_ret2
          have g14 : w13.grownBy (w13.alloc (.cells #[.int .u8 fl, .int .u32 cmd, .int .u32 app, .int .u32 hop, .int .u32 ete, .slice (some ⟨gz, 0, none⟩) (1 + 1) cz] 37)) none := World.grownBy_alloc _ _ _
          refine ⟨c, _, w13.heap.size, lo, _, .slice (some ⟨gz, 0, none⟩) (1 + 1) cz, rfl, SR13.out.grow g14, HLO.out, HSZ.out, heap_alloc_new _ _, ?_, ?_, ?_, ?_⟩
          · rw [← HN.out]; exact keptN HO13.out g14
          · exact gofBelow (HB13.out.grown g14 HB13.out.size (by intro k hk; cases hk))
          · intro h; cases h
          · intro _
            exact ⟨_, _, _, _, rfl, U13.out.grow g14, fun j u h => gcell g14 (C13.out j u h)⟩
end Go.Proofs.YbulkaptmDoor
