/-
  (f21) applicationAVPs.
-/
import Derived.Test.YbulkaptmDoorSpec
import Derived.Test.YbulkaptmDoorAppsA
import Derived.Test.YbulkaptmDoorBuild
import Derived.Deep.QuietTactic
import Derived.BigQuiet
import Derived.Defers
namespace Go.Proofs.YbulkaptmDoor
open Go.RowKit Go.Maps
set_option linter.unusedVariables false
set_option linter.unusedSimpArgs false
set_option maxRecDepth 100000

theorem law22 : Keyed Ybad.prog 22 := int_keyed Ybad.underlying22
theorem zero4 (w : World) : (zeroValue 4).run Ybad.prog w = .ok (.bool false) w := by kernel_rfl
theorem lookup_seen {w : World} {b n : Nat} {D : DataW Unit} {l : List Int} {v : Int} (hown : w.ownsMap Ybad.prog 22 (plainElem Ybad.prog 4) b n D) (hD : MapIs D l) (hv : (Lit.int .u32 v).wf = true) :
    (Instr.lookup 145 (.map (some b)) (.int .u32 v) false).run Ybad.prog w = .ok (.bool (decide (v ∈ l))) w := by
  obtain ⟨x, ps, hrun, hx⟩ := hown.lookup law22 Ybad.underlying145 (zero4 w) (plainElem_bool Ybad.underlying4 false) (keyOf_int_mk Ybad.underlying22 hv)
  rw [hD.2 v] at hx
  have : x = .bool (decide (v ∈ l)) := by
    unfold plainElem at hx
    rw [Ybad.underlying4] at hx
    cases x <;> simp at hx
    simp [hx]
  rw [hrun, this]
/-- Lock and Unlock leave the server as it was. -/
theorem unlock_back {w wr : World} {s : Nat} {sc : Array Value} (hs : w.heap[s]? = some (.cells sc 88 (0, 0))) (h14 : sc[14]? = some (.int .i32 0)) (hb : Below w.heap.size (w.setCell ⟨s, 14, none⟩ (.int .i32 1)) wr) : w.grownBy (wr.setCell ⟨s, 14, none⟩ (.int .i32 0)) none := by
  have h1 : wr.heap[s]? = some (.cells (sc.setIfInBounds 14 (.int .i32 1)) 88 (0, 0)) := by
    rw [hb.block s (by have := lt_of_block hs; simpa using this), heap_set _ _ _ _ _ _ _ hs]
  have g1 := gset w ⟨s, 14, none⟩ (.int .i32 1)
  have g2 := gset wr ⟨s, 14, none⟩ (.int .i32 0)
  refine ⟨g2.os.trans (hb.os.trans g1.os), g2.tape.trans (hb.tape.trans g1.tape), g2.output.trans (hb.output.trans g1.output), Nat.le_trans g1.size (Nat.le_trans hb.size g2.size), fun k hk _ => ?_⟩
  by_cases e : k = s
  · subst e
    rw [heap_set _ _ _ _ _ _ _ h1, hs]
    have hlt : 14 < sc.size := (Array.getElem?_eq_some_iff.1 h14).1
    have h2 := (Array.getElem?_eq_some_iff.1 h14).2
    have : (sc.setIfInBounds 14 (.int .i32 1)).setIfInBounds 14 (.int .i32 0) = sc := by
      apply Array.ext_getElem?
      intro i
      by_cases hi : 14 = i
      · subst hi
        rw [Array.getElem?_setIfInBounds_self_of_lt (by simpa using hlt), h14]
      · rw [Array.getElem?_setIfInBounds_ne hi, Array.getElem?_setIfInBounds_ne hi]
    rw [this]
  · rw [g2.block k (Nat.lt_of_lt_of_le hk (Nat.le_trans g1.size hb.size)) (by intro e'; cases e'; exact e rfl), hb.block k hk, g1.block k hk (by intro e'; cases e'; exact e rfl)]
theorem appCells_len (ids vends : List Int) : ∀ n, (appCells ids vends n).length = n * 2
  | 0 => rfl
  | n + 1 => by rw [appCells_succ, List.length_append, appCells_len ids vends n]; simp; omega
theorem appCells_get (ids vends : List Int) : ∀ n k, k < n → (appCells ids vends n)[k * 2]? = some (.int .u32 (ids.getD k 0)) ∧ (appCells ids vends n)[k * 2 + 1]? = some (.int .u32 (vends.getD k 0))
  | 0, k, h => by omega
  | n + 1, k, h => by
    have hl := appCells_len ids vends n
    rw [appCells_succ]
    by_cases hk : k < n
    · obtain ⟨h1, h2⟩ := appCells_get ids vends n k hk
      rw [List.getElem?_append_left (by omega), List.getElem?_append_left (by omega)]
      exact ⟨h1, h2⟩
    · obtain rfl : k = n := by omega
      rw [List.getElem?_append_right (by omega), List.getElem?_append_right (by omega), hl]
      simp
theorem apps_form {w : World} {Ba n : Nat} {apps : Value} {ids vends : List Int} (h : w.ownsRow Ba 55 2 apps n (appCells ids vends n)) :
    ∃ ao cap, apps = .slice ao n cap ∧ ∀ k, k < n → ∃ ga, ao = some ⟨ga, 0, none⟩ ∧ w.cell? ⟨ga, k * 2, none⟩ = some (.int .u32 (ids.getD k 0)) ∧ w.cell? ⟨ga, k * 2 + 1, none⟩ = some (.int .u32 (vends.getD k 0)) := by
  rcases h.2 with ⟨rfl, rfl⟩ | ⟨g, cap, cur, rfl, _⟩
  · exact ⟨none, 0, rfl, fun k hk => by omega⟩
  · refine ⟨_, cap, rfl, fun k hk => ⟨g, rfl, ?_, ?_⟩⟩
    · have := h.cells rfl _ _ (appCells_get ids vends n k hk).1
      rwa [Addr.add_mid, Nat.zero_add] at this
    · have := h.cells rfl _ _ (appCells_get ids vends n k hk).2
      rwa [Addr.add_mid, Nat.zero_add] at this
theorem own_neM {w : World} {B e s n b m : Nat} {sv : Value} {xs : List Value} {P : Program} {k : TypeId} {R : Value → Option (DataW Unit × List MemPlace)} {D : DataW Unit} (h : w.ownsRow B e s sv n xs) (hm : w.ownsMap P k R b m D) : some b ≠ sv.ownBlock := by
  intro e'
  obtain ⟨es, clock, hb, _⟩ := hm
  rcases h.2 with ⟨rfl, _⟩ | ⟨g, cap, cur, rfl, _, hg, _⟩
  · cases e'
  · simp only [Value.ownBlock, Option.some.injEq] at e'
    subst e'
    rw [hg] at hb
    cases hb
theorem U8s.mapped {w w' : World} {b m : Nat} {P : Program} {k : TypeId} {R : Value → Option (DataW Unit × List MemPlace)} {D : DataW Unit} (hm : w.ownsMap P k R b m D) (hg : w.grownBy w' (some b)) {da : Option Addr} {dl : Nat} {bs : List Int} (h : U8s w da dl bs) : U8s w' da dl bs := by
  obtain ⟨h1, g, c', h2, h3, h4⟩ := h
  refine ⟨h1, g, c', h2, gblock hg h3 ?_, h4⟩
  intro e
  cases e
  obtain ⟨es, clock, hb, _⟩ := hm
  rw [h3] at hb
  cases hb
theorem U8s.owned {w w' : World} {B n : Nat} {sv : Value} {xs : List Value} (hr : w.ownsRow B 41 4 sv n xs) (hg : w.grownBy w' sv.ownBlock) {da : Option Addr} {dl : Nat} {bs : List Int} (h : U8s w da dl bs) : U8s w' da dl bs := by
  obtain ⟨h1, g, c', h2, h3, h4⟩ := h
  exact ⟨h1, g, c', h2, gblock hg h3 (own_ne41 hr h3 (by decide)), h4⟩

set_option maxHeartbeats 3200000 in
/-- (f21) applicationAVPs. -/
theorem apps_any (s n Ba : Nat) (sc : Array Value) (apps : Value) (ids vends : List Int) (nm : Nat → ByteArray) (z : Addr) (w : World) (hs : w.heap[s]? = some (.cells sc 88 (0, 0))) (h14 : sc[14]? = some (.int .i32 0)) (h17 : sc[17]? = some apps)
    (hap : w.ownsRow Ba 55 2 apps n (appCells ids vends n)) (hn : n ≤ 1024) (hI : ∀ k, (Lit.int .u32 (ids.getD k 0)).wf = true) (hV : ∀ k, (Lit.int .u32 (vends.getD k 0)).wf = true) (hG : Globs w nm z) (hs17 : 17 ≤ s) :
    Calls Ybad.prog 21 #[.pointer (some ⟨s, 0, none⟩)] w fun e w' => (∃ sv avs, e = .returned sv ∧ w'.ownsRow w.heap.size 41 4 sv avs.length (flat avs) ∧ AvsOk w' avs (sp1 vends n ++ sp2 ids vends n)) ∧ w.grownBy w' none := by
  have hmm := @run_makeMap Ybad.prog
  obtain ⟨j41, hj, hy0, hy1, hy2⟩ := info_parts info41
  have c14 : w.cell? ⟨s, 14, none⟩ = some (.int .i32 0) := by rw [cellOf hs, h14]
  have z14 : w.frozen? ⟨s, 14, none⟩ = false := frozenOf hs
  obtain ⟨ao, cap, rfl, hcl⟩ := apps_form hap
  have HS : Hid (w.heap[s]? = some (.cells sc 88 (0, 0)) ∧ sc[14]? = some (.int .i32 0) ∧ sc[17]? = some (.slice ao n cap)) := ⟨hs, h14, h17⟩
  have HN : Hid (n ≤ 1024) := hn
  have HIV : Hid ((∀ k, (Lit.int .u32 (ids.getD k 0)).wf = true) ∧ (∀ k, (Lit.int .u32 (vends.getD k 0)).wf = true)) := ⟨hI, hV⟩
  obtain ⟨w1, hw1⟩ : ∃ w1, w1 = w.setCell ⟨s, 14, none⟩ (.int .i32 1) := ⟨_, rfl⟩
  have S1 : Hid (w1.heap[s]? = some (.cells (sc.setIfInBounds 14 (.int .i32 1)) 88 (0, 0))) := by show w1.heap[s]? = _; rw [hw1, heap_set _ _ _ _ _ _ _ hs]
  have GL1 : Hid (Globs w1 nm z) := by show Globs w1 nm z; rw [hw1]; exact hG.below ((Below.refl 17 w).setCell (by simpa using hs17) _)
  have CL1 : Hid (∀ k, k < n → ∃ ga, ao = some ⟨ga, 0, none⟩ ∧ w1.cell? ⟨ga, k * 2, none⟩ = some (.int .u32 (ids.getD k 0)) ∧ w1.cell? ⟨ga, k * 2 + 1, none⟩ = some (.int .u32 (vends.getD k 0))) := by
    show ∀ k, k < n → ∃ ga, ao = some ⟨ga, 0, none⟩ ∧ w1.cell? ⟨ga, k * 2, none⟩ = some (.int .u32 (ids.getD k 0)) ∧ w1.cell? ⟨ga, k * 2 + 1, none⟩ = some (.int .u32 (vends.getD k 0))
    intro k hk
    obtain ⟨ga, h1, h2, h3⟩ := hcl k hk
    have hne : some ga ≠ some s := by
      intro e
      have : (.slice ao n cap : Value).ownBlock = some s := by rw [h1]; exact e
      exact own_neG hap hs (by decide) this.symm
    refine ⟨ga, h1, ?_, ?_⟩
    · rw [hw1]; exact gcellR (gset _ _ _) h2 hne
    · rw [hw1]; exact gcellR (gset _ _ _) h3 hne
  have hz1 : w1.heap.size = w.heap.size := by rw [hw1]; simp
  have EW : Hid (w1 = w.setCell ⟨s, 14, none⟩ (.int .i32 1)) := hw1
  have hn' : (n : Int) ≤ 1024 := by omega
  clear hcl hap hG hs h14 h17 hn hI hV hw1
  go_enter_defers Ybad.func21, Ybad.ntmps21
  go_wp2_with fail
  refine (MuLone.lock_free muLib ⟨s, 14, none⟩ _ c14 z14).mono ?_
  rintro e w' ⟨rfl, rfl⟩
  rw [← EW.out]
  clear c14 z14
  have d17 : w1.cell? ⟨s, 17, none⟩ = some (.slice ao n cap) := by rw [cellOf S1.out]; simpa using HS.out.2.2
  have hsl : s < w1.heap.size := lt_of_block S1.out
  have hsn : s ≠ w1.heap.size := by omega
  have d17' : (w1.alloc (.map #[] 0)).cell? ⟨s, 17, none⟩ = some (.slice ao n cap) := gcell (World.grownBy_alloc _ _ _) d17
  go_wp2_with fail
  go_loopw [3, 22] (fun d i wr => ∃ (k : Nat) (avs : List Av) (D : DataW Unit), k ≤ n ∧ i = .int .i64 k ∧ Hid (wr.ownsRow w.heap.size 41 4 d avs.length (flat avs)) ∧ Hid (AvsOk wr avs (sp1 vends k)) ∧ Hid (wr.ownsMap Ybad.prog 22 (plainElem Ybad.prog 4) w.heap.size k D ∧ MapIs D (seen vends k)) ∧ Hid (Below w.heap.size w1 wr))
    (fun _ i _ => n - (intOf i).toNat)
  case atStart => exact ⟨0, [], .map [], Nat.zero_le _, rfl, ⟨rfl, .inl ⟨rfl, rfl⟩⟩, trivial, ⟨hz1 ▸ World.ownsMap_made _ _ _ _, mapIs_nil⟩, (Below.refl _ _).alloc (by rw [hz1]; exact Nat.le_refl _) _⟩
  case round =>
    obtain ⟨k, avs, D, hk, rfl, HR, HA, HM, HB⟩ := hrel
    by_cases hlt : k < n
    · have hlt' : (k : Int) < (n : Int) := by omega
      obtain ⟨ga, hao, hc0, hc1⟩ := CL1.out k hlt
      subst hao
      have hgl : ga < w1.heap.size := World.block_lt_of_cell? _ _ hc0
      have e0 : wr.cell? ⟨ga, k * 2, none⟩ = some (.int .u32 (ids.getD k 0)) := by rw [HB.out.cell (by rw [hz1] at hgl; exact hgl)]; exact hc0
      have e1 : wr.cell? ⟨ga, k * 2 + 1, none⟩ = some (.int .u32 (vends.getD k 0)) := by rw [HB.out.cell (by rw [hz1] at hgl; exact hgl)]; exact hc1
      obtain ⟨id, hid⟩ : ∃ id, id = ids.getD k 0 := ⟨_, rfl⟩
      obtain ⟨vd, hvd⟩ : ∃ vd, vd = vends.getD k 0 := ⟨_, rfl⟩
      rw [← hid] at e0
      rw [← hvd] at e1
      have HID : Hid (id = ids.getD k 0) := hid
      have HVD : Hid (vd = vends.getD k 0) := hvd
      clear hid hvd hc0 hc1
      have wV : (Lit.int .u32 vd).wf = true := by rw [HVD.out]; exact HIV.out.2 k
      have hav : avs.length ≤ k := by rw [HA.out.len]; exact sp1_le _ _
      have hsw : w.heap.size ≤ wr.heap.size := by have := HB.out.size; omega
      by_cases h0 : vd = 0
      · subst h0
        have gA : Hid (wr.grownBy (wr.alloc (.cells #[.int .u32 id, .int .u32 0] 55)) none) := World.grownBy_alloc _ _ _
        go_wp2
        go_roundw
        case rel =>
          refine ⟨k + 1, avs, D, by omega, by go_num, keptN HR.out gA.out, ?_, ⟨(HM.out.1.alloc _).mono (n' := k + 1) (Nat.le_succ _), ?_⟩, HB.out.alloc hsw _⟩
          · show AvsOk _ avs (sp1 vends (k + 1))
            rw [sp1_old (.inl HVD.out.symm)]
            exact AvsOk.mono (fun _ _ _ h => h.grow gA.out) HA.out
          · rw [seen_old (.inl HVD.out.symm)]; exact HM.out.2
        case measure => simp [intOf]; omega
      · by_cases hin : vd ∈ seen vends k
        · have gA : Hid (wr.grownBy (wr.alloc (.cells #[.int .u32 id, .int .u32 vd] 55)) none) := World.grownBy_alloc _ _ _
          have LK : (Instr.lookup 145 (.map (some w.heap.size)) (.int .u32 vd) false).run Ybad.prog (wr.alloc (.cells #[.int .u32 id, .int .u32 vd] 55)) = .ok (.bool true) (wr.alloc (.cells #[.int .u32 id, .int .u32 vd] 55)) := by
            have := lookup_seen (HM.out.1.alloc (.cells #[.int .u32 id, .int .u32 vd] 55)) HM.out.2 wV
            rw [this, decide_eq_true hin]
          have HIN : Hid (vd ∈ seen vends k) := hin
          clear hin
          go_wp2
          go_roundw
          case rel =>
            refine ⟨k + 1, avs, D, by omega, by go_num, keptN HR.out gA.out, ?_, ⟨(HM.out.1.alloc _).mono (n' := k + 1) (Nat.le_succ _), ?_⟩, HB.out.alloc hsw _⟩
            · show AvsOk _ avs (sp1 vends (k + 1))
              rw [sp1_old (.inr (by rw [← HVD.out]; exact HIN.out))]
              exact AvsOk.mono (fun _ _ _ h => h.grow gA.out) HA.out
            · rw [seen_old (.inr (by rw [← HVD.out]; exact HIN.out))]; exact HM.out.2
          case measure => simp [intOf]; omega
        · have gA : Hid (wr.grownBy (wr.alloc (.cells #[.int .u32 id, .int .u32 vd] 55)) none) := World.grownBy_alloc _ _ _
          have LK : (Instr.lookup 145 (.map (some w.heap.size)) (.int .u32 vd) false).run Ybad.prog (wr.alloc (.cells #[.int .u32 id, .int .u32 vd] 55)) = .ok (.bool false) (wr.alloc (.cells #[.int .u32 id, .int .u32 vd] 55)) := by
            have := lookup_seen (HM.out.1.alloc (.cells #[.int .u32 id, .int .u32 vd] 55)) HM.out.2 wV
            rw [this, decide_eq_false hin]
          have HIN : Hid (vd ∉ seen vends k) := hin
          have KEY : Hid (keyOf Ybad.prog 22 (.int .u32 vd) = some (.int .u32 vd)) := keyOf_int_mk Ybad.underlying22 wV
          have HMA : Hid ((wr.alloc (.cells #[.int .u32 id, .int .u32 vd] 55)).ownsMap Ybad.prog 22 (plainElem Ybad.prog 4) w.heap.size k D) := HM.out.1.alloc _
          have HKM : Hid (k < maxLen) := by show k < maxLen; have := HN.out; unfold maxLen; omega
          clear hin
          go_wp2_with (at_mapUpdate; refine wpList_mapUpdate_own _ rfl _ _ _ 145 rfl 22 4 law22 Ybad.underlying145 (plainElem Ybad.prog 4) w.heap.size k D rfl HMA.out HKM.out _ _ _ rfl rfl KEY.out _ [] (plainElem_bool Ybad.underlying4 true) ?_)
          intro w2 hown2 hg2
          have G2 : Hid ((wr.alloc (.cells #[.int .u32 id, .int .u32 vd] 55)).grownBy w2 (some w.heap.size)) := hg2
          have M2 : Hid (w2.ownsMap Ybad.prog 22 (plainElem Ybad.prog 4) w.heap.size (k + 1) (D.put (.int .u32 vd) (.lit (.bool true)))) := hown2
          have B2 : Hid (w2.heap[wr.heap.size]? = some (.cells #[.int .u32 id, .int .u32 vd] 55 (0, 0))) := gblock hg2 (heap_alloc_new _ _) (by have := HM.out.1.lt; intro e; have e2 : wr.heap.size = w.heap.size := (by simpa using e); omega)
          have R2 : Hid (w2.ownsRow w.heap.size 41 4 u3 avs.length (flat avs)) := (keptN HR.out gA.out).kept hg2 (.inr (fun e => own_neM (keptN HR.out gA.out) HMA.out e.symm))
          have BL2 : Hid (Below w.heap.size w1 w2) := (HB.out.alloc hsw _).grown hg2 (by simp; omega) (by intro k hk; cases hk; omega)
          have A2 : Hid (AvsOk w2 avs (sp1 vends k)) := AvsOk.mono (fun _ _ _ h => U8s.mapped HMA.out G2.out (h.grow gA.out)) HA.out
          have GL2 : Hid (Globs w2 nm z) := GL1.out.below (by have hb := BL2.out; exact ⟨hb.os, hb.tape, hb.output, hb.size, fun k hk => hb.block k (by have := GL1.out.big; omega)⟩)
          have q1 : w2.cell? ⟨wr.heap.size, 1, none⟩ = some (.int .u32 vd) := cellOf B2.out
          have g0 := GL2.out.g13.c0
          have g1 := GL2.out.g13.c1
          have g2 := GL2.out.g13.c2
          have g3 := GL2.out.g13.c3
          have g4 := GL2.out.g13.c4
          clear hown2 hg2 e0 e1 LK
          go_wp2_with fail
          have bv := bounds_u32 wV
          refine (attrU32 (nm 13) 265 0 4 true vd bv.1 (by omega) w2).mono ?_
          rintro e w3 ⟨⟨da, dc, rfl, hu3⟩, hg3⟩
          have G3 : Hid (w2.grownBy w3 none) := hg3
          have U3 : Hid (U8s w3 da 4 (be32 vd)) := hu3
          have R3 : Hid ((w3.alloc (.cells (flat [⟨265, aflags 0 true, 0, da, 4, dc⟩]).toArray 41)).ownsRow w.heap.size 41 4 u3 avs.length (flat avs)) := keptN (keptN R2.out hg3) (World.grownBy_alloc _ _ _)
          have s3 : w.heap.size ≤ w3.heap.size := by have := BL2.out.size; have := hg3.size; omega
          clear hu3 hg3 q1 g0 g1 g2 g3 g4 bv
          go_wp2_with (at_builtin; refine wpList_append_own _ rfl (.tmp 39) (.tmp 44) 35 rfl w.heap.size 41 j41 (.agg #[.int .u32 0, .int .u8 0, .int .u32 0, .slice none 0 0]) 4 40 Ybad.underlying35 hj hy0 hy1 hy2 rfl (by decide) u3 avs.length (flat avs) rfl R3.out ⟨w3.heap.size, 0, none⟩ 1 1 (flat [⟨265, aflags 0 true, 0, da, 4, dc⟩]) rfl rfl (World.news_of_block (heap_alloc_new w3 (.cells (flat [⟨265, aflags 0 true, 0, da, 4, dc⟩]).toArray 41))) (flat_one _) (by have := HN.out; unfold maxLen; omega) (by have := HN.out; omega) (by simp; omega) ?_)
          intro v5 w5 hown5 hg5 _
          have HO5 : Hid (w5.ownsRow w.heap.size 41 4 v5 (avs ++ [(⟨265, aflags 0 true, 0, da, 4, dc⟩ : Av)]).length (flat (avs ++ [(⟨265, aflags 0 true, 0, da, 4, dc⟩ : Av)]))) := by show w5.ownsRow _ _ _ _ _ _; rw [flat_append, List.length_append]; exact hown5
          have G5 : Hid ((w3.alloc (.cells (flat [⟨265, aflags 0 true, 0, da, 4, dc⟩]).toArray 41)).grownBy w5 u3.ownBlock) := hg5
          clear hown5 hg5
          have g2A : Hid (w2.grownBy (w3.alloc (.cells (flat [⟨265, aflags 0 true, 0, da, 4, dc⟩]).toArray 41)) none) := gtrans G3.out (World.grownBy_alloc _ _ _)
          go_wp2
          go_roundw
          case rel =>
            refine ⟨k + 1, avs ++ [(⟨265, aflags 0 true, 0, da, 4, dc⟩ : Av)], _, by omega, by go_num, HO5.out, ?_, ⟨(M2.out.kept g2A.out (by simp)).kept G5.out (own_neM R3.out (M2.out.kept g2A.out (by simp))), ?_⟩, ?_⟩
            · show AvsOk _ _ (sp1 vends (k + 1))
              rw [sp1_new (by rw [← HVD.out]; exact h0) (by rw [← HVD.out]; exact HIN.out), ← HVD.out]
              refine AvsOk.append (AvsOk.mono (fun _ _ _ h => U8s.owned R3.out G5.out (h.grow g2A.out)) A2.out) ⟨⟨rfl, ?_⟩, trivial⟩
              intro v hv
              cases hv
              exact ⟨rfl, U8s.owned R3.out G5.out (U3.out.grow (World.grownBy_alloc _ _ _))⟩
            · rw [seen_new (by rw [← HVD.out]; exact h0) (by rw [← HVD.out]; exact HIN.out), ← HVD.out]
              exact HM.out.2.put vd
            · exact (BL2.out.grown g2A.out (by have := BL2.out.size; omega) (by intro k hk; cases hk)).grown G5.out (by simp; omega) (fun k hk => (R3.out.lt _ hk).1)
          case measure => simp [intOf]; omega
    · have hlt' : ¬ (k : Int) < (n : Int) := by omega
      have hkn : k = n := by omega
      subst hkn
      have HSL : Hid (s < w.heap.size) := by show s < w.heap.size; omega
      have d17r : wr.cell? ⟨s, 17, none⟩ = some (.slice ao k cap) := by rw [HB.out.cell (by exact HSL.out)]; exact d17
      clear hlt d17 d17'
      go_wp2_with fail
      clear d17r
      go_loopw [3, 52] (fun d i wr => ∃ (q : Nat) (avs : List Av), q ≤ k ∧ i = .int .i64 q ∧ Hid (wr.ownsRow w.heap.size 41 4 d avs.length (flat avs)) ∧ Hid (AvsOk wr avs (sp1 vends k ++ sp2 ids vends q)) ∧ Hid (Below w.heap.size w1 wr))
        (fun _ i _ => k - (intOf i).toNat)
      case atStart => exact ⟨0, avs, Nat.zero_le _, rfl, HR.out, by show AvsOk _ avs (sp1 vends k ++ []); rw [List.append_nil]; exact HA.out, HB.out⟩
      case round =>
        clear HR HA HM HB
        obtain ⟨q, avs, hq, rfl, HR, HA, HB⟩ := hrel
        have hsw : w.heap.size ≤ wr.heap.size := by have := HB.out.size; omega
        by_cases hlt : q < k
        · have hqlt : (q : Int) < (k : Int) := by omega
          obtain ⟨ga, hao, hc0, hc1⟩ := CL1.out q hlt
          subst hao
          have hgl : ga < w1.heap.size := World.block_lt_of_cell? _ _ hc0
          have e0 : wr.cell? ⟨ga, q * 2, none⟩ = some (.int .u32 (ids.getD q 0)) := by rw [HB.out.cell (by rw [hz1] at hgl; exact hgl)]; exact hc0
          have e1 : wr.cell? ⟨ga, q * 2 + 1, none⟩ = some (.int .u32 (vends.getD q 0)) := by rw [HB.out.cell (by rw [hz1] at hgl; exact hgl)]; exact hc1
          obtain ⟨id, hid⟩ : ∃ id, id = ids.getD q 0 := ⟨_, rfl⟩
          obtain ⟨vd, hvd⟩ : ∃ vd, vd = vends.getD q 0 := ⟨_, rfl⟩
          rw [← hid] at e0
          rw [← hvd] at e1
          have HID : Hid (id = ids.getD q 0) := hid
          have HVD : Hid (vd = vends.getD q 0) := hvd
          clear hid hvd hc0 hc1
          have HWV : Hid ((0 ≤ id ∧ id < 4294967296) ∧ (0 ≤ vd ∧ vd < 4294967296)) := by
            have b1 := bounds_u32 (HIV.out.1 q)
            have b2 := bounds_u32 (HIV.out.2 q)
            rw [← HID.out] at b1
            rw [← HVD.out] at b2
            exact ⟨⟨b1.1, by omega⟩, ⟨b2.1, by omega⟩⟩
          have HAV : Hid (avs.length ≤ 2048) := by
            show avs.length ≤ 2048
            rw [HA.out.len, List.length_append, sp2_len]
            have := sp1_le vends k
            have := HN.out
            omega
          by_cases h0 : vd = 0
          · have GLA : Hid (Globs (wr.alloc (.cells #[.int .u32 id, .int .u32 vd] 55)) nm z) := (GL1.out.below (by have hb := HB.out; exact ⟨hb.os, hb.tape, hb.output, hb.size, fun k hk => hb.block k (by have := GL1.out.big; omega)⟩)).grow (World.grownBy_alloc _ _ _)
            have HV0 : Hid (vd = 0) := h0
            subst h0
            have g0 := GLA.out.g14.c0
            have g1 := GLA.out.g14.c1
            have g2 := GLA.out.g14.c2
            have g3 := GLA.out.g14.c3
            have g4 := GLA.out.g14.c4
            have gA : Hid (wr.grownBy (wr.alloc (.cells #[.int .u32 id, .int .u32 0] 55)) none) := World.grownBy_alloc _ _ _
            go_wp2_with fail
            refine (attrU32 (nm 14) 258 0 4 true id HWV.out.1.1 HWV.out.1.2 _).mono ?_
            rintro e w3 ⟨⟨da, dc, rfl, hu3⟩, hg3⟩
            have G3 : Hid (wr.grownBy w3 none) := gtrans gA.out hg3
            have U3 : Hid (U8s w3 da 4 (be32 id)) := hu3
            have R3 : Hid ((w3.alloc (.cells (flat [(⟨258, aflags 0 true, 0, da, 4, dc⟩ : Av)]).toArray 41)).ownsRow w.heap.size 41 4 u3 avs.length (flat avs)) := keptN (keptN HR.out G3.out) (World.grownBy_alloc _ _ _)
            have s3 : w.heap.size ≤ w3.heap.size := by have := G3.out.size; omega
            clear hu3 hg3 g0 g1 g2 g3 g4 e0 e1
            go_wp2_with (at_builtin; refine wpList_append_own _ rfl (.tmp 59) (.tmp 64) 35 rfl w.heap.size 41 j41 (.agg #[.int .u32 0, .int .u8 0, .int .u32 0, .slice none 0 0]) 4 40 Ybad.underlying35 hj hy0 hy1 hy2 rfl (by decide) u3 avs.length (flat avs) rfl R3.out ⟨w3.heap.size, 0, none⟩ 1 1 (flat [(⟨258, aflags 0 true, 0, da, 4, dc⟩ : Av)]) rfl rfl (World.news_of_block (heap_alloc_new w3 (.cells (flat [(⟨258, aflags 0 true, 0, da, 4, dc⟩ : Av)]).toArray 41))) (flat_one _) (by have := HAV.out; unfold maxLen; omega) (by have := HAV.out; omega) (by simp; omega) ?_)
            intro v5 w5 hown5 hg5 _
            have HO5 : Hid (w5.ownsRow w.heap.size 41 4 v5 (avs ++ [(⟨258, aflags 0 true, 0, da, 4, dc⟩ : Av)]).length (flat (avs ++ [(⟨258, aflags 0 true, 0, da, 4, dc⟩ : Av)]))) := by show w5.ownsRow _ _ _ _ _ _; rw [flat_append, List.length_append]; exact hown5
            have G5 : Hid ((w3.alloc (.cells (flat [(⟨258, aflags 0 true, 0, da, 4, dc⟩ : Av)]).toArray 41)).grownBy w5 u3.ownBlock) := hg5
            clear hown5 hg5
            have g2A : Hid (wr.grownBy (w3.alloc (.cells (flat [(⟨258, aflags 0 true, 0, da, 4, dc⟩ : Av)]).toArray 41)) none) := gtrans G3.out (World.grownBy_alloc _ _ _)
            go_wp2
            go_roundw
            case rel =>
              refine ⟨q + 1, avs ++ [(⟨258, aflags 0 true, 0, da, 4, dc⟩ : Av)], by omega, by go_num, HO5.out, ?_, (HB.out.grown g2A.out hsw (by intro k hk; cases hk)).grown G5.out (by simp; omega) (fun k hk => (R3.out.lt _ hk).1)⟩
              show AvsOk _ _ (sp1 vends k ++ (sp2 ids vends q ++ [if vends.getD q 0 = 0 then (258, some (ids.getD q 0)) else (260, none)]))
              rw [if_pos HVD.out.symm, ← HID.out, ← List.append_assoc]
              refine AvsOk.append (AvsOk.mono (fun _ _ _ h => U8s.owned R3.out G5.out (h.grow g2A.out)) HA.out) ⟨⟨rfl, ?_⟩, trivial⟩
              intro v hv
              cases hv
              exact ⟨rfl, U8s.owned R3.out G5.out (U3.out.grow (World.grownBy_alloc _ _ _))⟩
            case measure => simp [intOf]; omega
          · go_wp2_with fail
            obtain ⟨W2, hW2⟩ : ∃ W2, W2 = wr.alloc (.cells #[.int .u32 id, .int .u32 vd] 55) := ⟨_, rfl⟩
            rw [← hW2]
            have G2 : Hid (wr.grownBy W2 none) := by show wr.grownBy W2 none; rw [hW2]; exact World.grownBy_alloc _ _ _
            have B2 : Hid (W2.heap[wr.heap.size]? = some (.cells #[.int .u32 id, .int .u32 vd] 55 (0, 0))) := by show W2.heap[wr.heap.size]? = _; rw [hW2]; exact heap_alloc_new _ _
            have GL2 : Hid (Globs W2 nm z) := (GL1.out.below (by have hb := HB.out; exact ⟨hb.os, hb.tape, hb.output, hb.size, fun k hk => hb.block k (by have := GL1.out.big; omega)⟩)).grow G2.out
            clear hW2 e0 e1
            refine apps_r17 (B := w.heap.size) (hrow := keptN HR.out G2.out) (hG := GL2.out) (hn := by have := HAV.out; omega) (hB := by have := G2.out.size; omega) (hB17 := by have := GL1.out.big; omega) (hb := B2.out) (hv := HWV.out) (hQ := ?_)
            intros
            rename_i sv5 w5 a1 ha1 hown5 hg5
            have HO5 : Hid (w5.ownsRow w.heap.size 41 4 sv5 (avs ++ [a1]).length (flat (avs ++ [a1]))) := hown5
            have G5 : Hid (W2.grownBy w5 u3.ownBlock) := hg5
            clear hown5 hg5
            go_wp2
            go_roundw
            case rel =>
              refine ⟨q + 1, avs ++ [a1], by omega, by go_num, HO5.out, ?_, (HB.out.grown G2.out hsw (by intro k hk; cases hk)).grown G5.out (by have := G2.out.size; omega) (fun k hk => ((keptN HR.out G2.out).lt _ hk).1)⟩
              show AvsOk _ _ (sp1 vends k ++ (sp2 ids vends q ++ [if vends.getD q 0 = 0 then (258, some (ids.getD q 0)) else (260, none)]))
              rw [if_neg (by rw [← HVD.out]; exact h0), ← List.append_assoc]
              refine AvsOk.append (AvsOk.mono (fun _ _ _ h => U8s.owned (keptN HR.out G2.out) G5.out (h.grow G2.out)) HA.out) ⟨⟨ha1, ?_⟩, trivial⟩
              intro v hv
              cases hv
            case measure => simp [intOf]; omega
        · have hqlt : ¬ (q : Int) < (k : Int) := by omega
          have hqk : q = k := by omega
          subst hqk
          have SB : Hid (wr.heap[s]? = some (.cells (sc.setIfInBounds 14 (.int .i32 1)) 88 (0, 0))) := by show wr.heap[s]? = _; rw [HB.out.block s HSL.out]; exact S1.out
          have c14 : wr.cell? ⟨s, 14, none⟩ = some (.int .i32 1) := by
            rw [cellOf SB.out]
            exact Array.getElem?_setIfInBounds_self_of_lt (Array.getElem?_eq_some_iff.1 HS.out.2.1).1
          have z14 : wr.frozen? ⟨s, 14, none⟩ = false := frozenOf SB.out
          go_wp2_with fail
          refine leaves_cons (f := 33) (args := #[.pointer (some ⟨s, 14, none⟩)]) (by simp) (by simp [go_sem]) ?_
          refine (MuLone.unlock_deferred muLib ⟨s, 14, none⟩ .returning _ c14 z14).mono ?_
          rintro e u' w'' ⟨rfl, rfl, rfl⟩
          refine ⟨_, results_tmp rfl _ _ _, ⟨_, rfl, avs, keptT HR.out (gset _ _ _) SB.out (by decide), AvsOk.mono (fun _ _ _ h => h.frame (gset _ _ _) SB.out (by decide)) HA.out⟩, unlock_back HS.out.1 HS.out.2.1 ?_⟩
          rw [← EW.out]
          exact HB.out
end Go.Proofs.YbulkaptmDoor
