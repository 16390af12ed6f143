/-
  (f11) Attr.avp and (f6) Attr.Group.
-/
import Derived.Test.YbulkaptmDoorAppend
import Derived.Test.YbulkaptmDoorLen
import Derived.Deep.LoopGhost
namespace Go.Proofs.YbulkaptmDoor
open Go.RowKit
set_option linter.unusedVariables false
set_option maxRecDepth 100000

/-- The flags that an attribute's AVPs bear. -/
def aflags (vendor : Int) (mand : Bool) : Int := (if vendor = 0 then 0 else 128) + (if mand then 64 else 0)

/-- (f11) avp. -/
theorem avp_any (name : ByteArray) (code vendor typ : Int) (mand : Bool) (da : Option Addr) (dl dc : Nat) (w : World) :
    Calls Ybad.prog 26 #[.agg #[.string name, .int .u32 code, .int .u32 vendor, .bool mand, .int .u8 typ], .slice da dl dc] w fun e w' =>
      e = .returned (.agg #[.int .u32 code, .int .u8 (aflags vendor mand), .int .u32 vendor, .slice da dl dc]) ∧ w.grownBy w' none := by
  rcases (show vendor = 0 ∨ (vendor != 0) = true by rw [bne_iff_ne]; omega) with hv | hv
  · subst hv
    cases mand
    · go_enter Ybad.func26, Ybad.ntmps26
      go_wp2
      exact bodyPost_ret (v := .agg #[.int .u32 code, .int .u8 0, .int .u32 0, .slice da dl dc]) (by simp [results, Ybad.results26, go_sem]) rfl ⟨rfl, gtrans (World.grownBy_alloc _ _ _) (World.grownBy_alloc _ _ _)⟩
    · go_enter Ybad.func26, Ybad.ntmps26
      go_wp2
      exact bodyPost_ret (v := .agg #[.int .u32 code, .int .u8 64, .int .u32 0, .slice da dl dc]) (by simp [results, Ybad.results26, go_sem]; decide) rfl ⟨rfl, gtrans (World.grownBy_alloc _ _ _) (World.grownBy_alloc _ _ _)⟩
  · have hne : Hid (¬ vendor = 0) := bne_iff_ne.1 hv
    cases mand
    · have hf : Hid (aflags vendor false = 128) := by show aflags vendor false = 128; unfold aflags; rw [if_neg hne.out]; rfl
      go_enter Ybad.func26, Ybad.ntmps26
      go_wp2
      exact bodyPost_ret (v := .agg #[.int .u32 code, .int .u8 128, .int .u32 vendor, .slice da dl dc]) (by simp [results, Ybad.results26, go_sem]; decide) rfl ⟨by rw [hf.out], gtrans (World.grownBy_alloc _ _ _) (World.grownBy_alloc _ _ _)⟩
    · have hf : Hid (aflags vendor true = 192) := by show aflags vendor true = 192; unfold aflags; rw [if_neg hne.out]; rfl
      go_enter Ybad.func26, Ybad.ntmps26
      go_wp2
      exact bodyPost_ret (v := .agg #[.int .u32 code, .int .u8 192, .int .u32 vendor, .slice da dl dc]) (by simp [results, Ybad.results26, go_sem]; decide) rfl ⟨by rw [hf.out], gtrans (World.grownBy_alloc _ _ _) (World.grownBy_alloc _ _ _)⟩

theorem IsRow.below {k : IntKind} {w w' : World} {a : Option Addr} {len cap : Nat} {zs : List Int} (h : IsRow k w a len cap zs) (hb : Below w.heap.size w w') : IsRow k w' a len cap zs := by
  rcases h with h | ⟨x, hx, hl, hm, hz, hc, hw⟩
  · exact .inl h
  · exact .inr ⟨x, hx, hl, hm, hz, fun i hi => by rw [hb.cell (World.block_lt_of_cell? _ _ (hc i hi))]; exact hc i hi, hw⟩
theorem Avp.Fits.below {a : Avp} {w w' : World} (h : a.Fits w) (hb : Below w.heap.size w w') : a.Fits w' := ⟨h.c0, h.c1, h.f0, h.f1, h.v0, h.v1, h.row.below hb, h.dn⟩

theorem frozenOf {w : World} {k j : Nat} {c : Array Value} {t : TypeId} (hk : w.heap[k]? = some (.cells c t (0, 0))) : w.frozen? ⟨k, j, none⟩ = false := by
  simp [World.frozen?, hk]

theorem gset (w : World) (a : Addr) (u : Value) : w.grownBy (w.setCell a u) (some a.block) :=
  ⟨rfl, rfl, rfl, by simp, fun k _ hne => Below.heap_setCell w a u k (fun e => hne (by rw [e]))⟩
theorem owns_set {w : World} {B g n c : Nat} {xs : List Value} (h : w.ownsRow B 5 1 (.slice (some ⟨g, 0, none⟩) n c) n xs) (a : Addr) (u : Value) (hne : g ≠ a.block) : (w.setCell a u).ownsRow B 5 1 (.slice (some ⟨g, 0, none⟩) n c) n xs :=
  h.kept (gset w a u) (.inr (by simpa [Value.ownBlock] using hne))

def encAll (avs : List Avp) : List Int := avs.flatMap enc
theorem encAll_take (avs : List Avp) (k : Nat) (h : k < avs.length) : encAll (avs.take (k + 1)) = encAll (avs.take k) ++ enc avs[k] := by
  unfold encAll
  rw [List.take_succ_eq_append_getElem h, List.flatMap_append]
  simp

/-- What Group hands back, and what it leaves. -/
def GroupPost (W : World) (code vendor : Int) (mand : Bool) (avs : List Avp) (e : Ending) (w' : World) : Prop :=
  ∃ g n, n = total avs ∧ e = .returned (.agg #[.int .u32 code, .int .u8 (aflags vendor mand), .int .u32 vendor, .slice (some ⟨g, 0, none⟩) n n]) ∧
    w'.ownsRow W.heap.size 5 1 (.slice (some ⟨g, 0, none⟩) n n) n ((encAll avs).map (Value.int .u8)) ∧ Below W.heap.size W w'

theorem Avp.Fits.ok {a : Avp} {W : World} (h : a.Fits W) (hs : a.dl ≤ 1048576) : a.Ok W := ⟨h.c0, h.c1, h.f0, h.f1, h.v0, h.v1, hs, h.row, h.dn⟩

theorem total_le (avs : List Avp) (h : ∀ a ∈ avs, a.dl ≤ 1048576) : total avs ≤ avs.length * 1100000 := by
  induction avs with
  | nil => simp [total]
  | cons a r ih =>
    have h1 := ih fun x hx => h x (List.mem_cons_of_mem _ hx)
    have h2 := h a (List.mem_cons_self ..)
    have h3 : hlen a.flags ≤ 12 := by unfold hlen; split <;> decide
    have h4 : total (a :: r) = elen a + total r := by simp [total]
    rw [h4, List.length_cons]
    unfold elen
    omega
theorem total_take_le (avs : List Avp) (k : Nat) : total (avs.take k) ≤ total avs := by
  have : total avs = total (avs.take k) + total (avs.drop k) := by
    unfold total
    rw [← List.sum_append, ← List.map_append, List.take_append_drop]
  omega

set_option maxHeartbeats 1600000 in
/-- (f6) Group, over AVPs whose values are short. -/
theorem Group_any (name : ByteArray) (code vendor typ : Int) (mand : Bool) (b off len cap : Nat) (avs : List Avp) (W : World) (hll : avs.length = len) (hl : len ≤ 256) (hsm : ∀ a ∈ avs, a.dl ≤ 1048576)
    (hat : ∀ i (h : i < avs.length), (avs[i]).At W b (off + i * 4) ∧ (avs[i]).Fits W) :
    Calls Ybad.prog 25 #[.agg #[.string name, .int .u32 code, .int .u32 vendor, .bool mand, .int .u8 typ], .slice (some ⟨b, off, none⟩) len cap] W (GroupPost W code vendor mand avs) := by
  obtain ⟨i0, hi, hz0, hz1, hz2⟩ := info_parts info5
  have HA : Hid (∀ i (h : i < avs.length), (avs[i]).At W b (off + i * 4) ∧ (avs[i]).Fits W) := hat
  have HS : Hid (∀ a ∈ avs, a.dl ≤ 1048576) := hsm
  have htl := total_le avs hsm
  clear hat hsm
  go_enter Ybad.func25, Ybad.ntmps25
  go_wp2_with fail
  have HB0 : Hid (Below W.heap.size W ((W.alloc (.cells #[.string name, .int .u32 code, .int .u32 vendor, .bool mand, .int .u8 typ] 122)).alloc (.cells #[.int .u32 0, .int .u8 0, .int .u32 0, .slice none 0 0] 41))) := ((Below.refl _ W).alloc (Nat.le_refl _) _).alloc (by simp) _
  refine (encodedLen_any b off len cap avs _ hll hl HS.out (fun i h => ⟨(HA.out i h).1.below HB0.out, (HA.out i h).2.below HB0.out⟩)).mono ?_
  rintro e w1 ⟨rfl, hb1⟩
  have HB1 : Hid (Below W.heap.size W w1) := HB0.out.trans (hb1.mono (by simp; omega))
  have K1 : Hid (w1.heap[W.heap.size]? = some (.cells #[.string name, .int .u32 code, .int .u32 vendor, .bool mand, .int .u8 typ] 122 (0, 0))) := by
    show w1.heap[W.heap.size]? = _
    rw [hb1.block _ (by simp; omega), Below.heap_alloc _ _ _ (by simp)]
    exact heap_alloc_new _ _
  have L1 : Hid (w1.heap[W.heap.size + 1]? = some (.cells #[.int .u32 0, .int .u8 0, .int .u32 0, .slice none 0 0] 41 (0, 0))) := by
    show w1.heap[W.heap.size + 1]? = _
    rw [hb1.block _ (by simp)]
    have := heap_alloc_new (W.alloc (.cells #[.string name, .int .u32 code, .int .u32 vendor, .bool mand, .int .u8 typ] 122)) (.cells #[.int .u32 0, .int .u8 0, .int .u32 0, .slice none 0 0] 41)
    simpa using this
  have hs1 : W.heap.size + 2 ≤ w1.heap.size := by have := hb1.size; simp at this; omega
  obtain ⟨T, hT⟩ : ∃ T, T = total avs := ⟨_, rfl⟩
  rw [← hT]
  rw [← hT] at htl
  have HT : Hid (T = total avs) := hT
  have htl' : T ≤ 300000000 := by omega
  clear hb1 HB0 hT
  go_wp2_with (at_make; refine wpList_make_own _ rfl _ _ 23 rfl W.heap.size 5 i0 (.int .u8 0) 1 Ybad.underlying23 hi hz0 hz1 _ _ _ T rfl rfl ?c0 ?c1 ?c2 ?c3 ?_)
  case c0 => rfl
  case c1 => rw [hz2]; omega
  case c2 => unfold maxLen; omega
  case c3 => omega
  intro w2 hown2 hg2
  obtain ⟨g, hg⟩ : ∃ g, g = w1.heap.size := ⟨_, rfl⟩
  rw [← hg]
  rw [← hg] at hown2
  have HO2 : Hid (w2.ownsRow W.heap.size 5 1 (.slice (some ⟨g, 0, none⟩) 0 T) 0 []) := hown2
  have K2 : Hid (w2.heap[W.heap.size]? = _) := gblock hg2 K1.out (by simp)
  have L2 : Hid (w2.heap[W.heap.size + 1]? = _) := gblock hg2 L1.out (by simp)
  have HB2 : Hid (Below W.heap.size W w2) := HB1.out.grown hg2 (by omega) (by intro k hk; cases hk)
  have hg1 : W.heap.size + 2 ≤ g := by omega
  clear hown2 hg2 hg K1 L1 HB1 hs1
  go_wp2_with fail
  go_loopw [5, 13] (fun d i wr => ∃ k t : Nat, k ≤ len ∧ i = .int .i64 k ∧ Hid (t = total (avs.take k)) ∧ d = .slice (some ⟨g, 0, none⟩) t T ∧
      Hid (wr.ownsRow W.heap.size 5 1 (.slice (some ⟨g, 0, none⟩) t T) t ((encAll (avs.take k)).map (Value.int .u8))) ∧
      Hid (wr.heap[W.heap.size]? = some (.cells #[.string name, .int .u32 code, .int .u32 vendor, .bool mand, .int .u8 typ] 122 (0, 0))) ∧
      Hid (wr.heap[W.heap.size + 1]? = some (.cells #[.int .u32 0, .int .u8 0, .int .u32 0, .slice none 0 0] 41 (0, 0))) ∧ Hid (Below W.heap.size W wr)) (fun _ i _ => len - (intOf i).toNat)
  case atStart => exact ⟨0, 0, Nat.zero_le _, rfl, rfl, rfl, HO2.out, K2.out, L2.out, HB2.out⟩
  case round =>
    obtain ⟨k, t, hk, rfl, ht, rfl, HO, HK, HL, HB⟩ := hrel
    clear HO2 K2 L2 HB2
    have hs := HB.out.size
    by_cases hlt : k < len
    · have hA := (HA.out k (by omega)).1.below HB.out
      have hF := (HA.out k (by omega)).2.ok (HS.out _ (List.getElem_mem _))
      have htt := total_take avs k (by omega)
      have htl2 := total_take_le avs (k + 1)
      have hee := encAll_take avs k (by omega)
      obtain ⟨a, ha⟩ : ∃ a, a = avs[k]'(by omega) := ⟨_, rfl⟩
      rw [← ha] at hA hF htt hee
      have hfit : t + elen a ≤ T := by rw [ht.out, HT.out, ← htt]; exact htl2
      have HT2 : Hid (t + elen a = total (avs.take (k + 1))) := by show t + elen a = _; rw [htt, ht.out]
      have HE : Hid (encAll (avs.take (k + 1)) = encAll (avs.take k) ++ enc a) := hee
      have HF : Hid (a.Ok W) := hF
      have h0 := hA.c0
      have h1 := hA.c1
      have h2 := hA.c2
      have h3 := hA.c3
      clear ha hA hF htt htl2 hee
      go_wp2_with fail
      refine (appendAVP_fits a W _ g t T _ HF.out (HB.out.alloc hs _) (HO.out.alloc _) hfit).mono ?_
      rintro e w3 ⟨rfl, hown3, hg3⟩
      have HO3 : Hid (w3.ownsRow W.heap.size 5 1 (.slice (some ⟨g, 0, none⟩) (t + elen a) T) (t + elen a) ((encAll (avs.take (k + 1))).map (Value.int .u8))) := by
        have := hown3
        rw [← List.map_append, ← HE.out] at this
        exact this
      have HG : Hid (wr.grownBy w3 (some g)) := gtrans (World.grownBy_alloc _ _ _) hg3
      have HK3 : Hid (w3.heap[W.heap.size]? = _) := gblock HG.out HK.out (by intro h; cases h; omega)
      have HL3 : Hid (w3.heap[W.heap.size + 1]? = _) := gblock HG.out HL.out (by intro h; cases h; omega)
      have HB3 : Hid (Below W.heap.size W w3) := HB.out.grown HG.out hs (by intro k hk; cases hk; omega)
      clear hown3 hg3 HO HK HL HB HG h0 h1 h2 h3
      go_wp2
      go_roundw
      case rel => exact ⟨k + 1, t + elen a, by omega, by go_num, HT2, rfl, HO3, HK3, HL3, HB3⟩
      case measure => simp [intOf]; omega
    · have d0 : wr.cell? ⟨W.heap.size, 0, none⟩ = some (.string name) := cellOf HK.out
      have d1 : wr.cell? ⟨W.heap.size, 1, none⟩ = some (.int .u32 code) := cellOf HK.out
      have d2 : wr.cell? ⟨W.heap.size, 2, none⟩ = some (.int .u32 vendor) := cellOf HK.out
      have d3 : wr.cell? ⟨W.heap.size, 3, none⟩ = some (.bool mand) := cellOf HK.out
      have d4 : wr.cell? ⟨W.heap.size, 4, none⟩ = some (.int .u8 typ) := cellOf HK.out
      have hwhole : avs.take k = avs := List.take_of_length_le (by omega)
      have htT : t = T := by rw [ht.out, HT.out, hwhole]
      subst htT
      have HO' : Hid (wr.ownsRow W.heap.size 5 1 (.slice (some ⟨g, 0, none⟩) t t) t ((encAll avs).map (Value.int .u8))) := by
        have := HO.out
        rw [hwhole] at this
        exact this
      clear hwhole HO ht
      go_wp2_with fail
      refine (avp_any name code vendor typ mand (some ⟨g, 0, none⟩) t t _).mono ?_
      rintro e w3 ⟨rfl, hg3⟩
      have HL3 : Hid (w3.heap[W.heap.size + 1]? = _) := gblock hg3 HL.out (by simp)
      have f0 : w3.cell? ⟨W.heap.size + 1, 0, none⟩ = some (.int .u32 0) := cellOf HL3.out
      have f1 : w3.cell? ⟨W.heap.size + 1, 1, none⟩ = some (.int .u8 0) := cellOf HL3.out
      have f2 : w3.cell? ⟨W.heap.size + 1, 2, none⟩ = some (.int .u32 0) := cellOf HL3.out
      have f3 : w3.cell? ⟨W.heap.size + 1, 3, none⟩ = some (.slice none 0 0) := cellOf HL3.out
      have z0 : w3.frozen? ⟨W.heap.size + 1, 0, none⟩ = false := frozenOf HL3.out
      have z1 : w3.frozen? ⟨W.heap.size + 1, 1, none⟩ = false := frozenOf HL3.out
      have z2 : w3.frozen? ⟨W.heap.size + 1, 2, none⟩ = false := frozenOf HL3.out
      have z3 : w3.frozen? ⟨W.heap.size + 1, 3, none⟩ = false := frozenOf HL3.out
      have HO3 : Hid (w3.ownsRow W.heap.size 5 1 (.slice (some ⟨g, 0, none⟩) t t) t ((encAll avs).map (Value.int .u8))) := HO'.out.kept hg3 (.inr (by simp [Value.ownBlock]))
      have HB3 : Hid (Below W.heap.size W w3) := HB.out.grown hg3 hs (by intro k hk; cases hk)
      clear hg3 HO' HK HL HB HL3 d0 d1 d2 d3 d4
      go_wp2
      refine bodyPost_ret (v := .agg #[.int .u32 code, .int .u8 (aflags vendor mand), .int .u32 vendor, .slice (some ⟨g, 0, none⟩) t t]) (by simp [results, Ybad.results25, go_sem, f0, f1, f2, f3]) rfl ?_
      refine ⟨g, t, HT.out, rfl, ?_, ?_⟩
      · exact owns_set (owns_set (owns_set (owns_set HO3.out _ _ (by simp; omega)) _ _ (by simp; omega)) _ _ (by simp; omega)) _ _ (by simp; omega)
      · exact (((HB3.out.setCell (by simp) _).setCell (by simp) _).setCell (by simp) _).setCell (by simp) _

set_option maxHeartbeats 1600000 in
/-- Group of nothing. -/
theorem Group_none (name : ByteArray) (code vendor typ : Int) (mand : Bool) (ao : Option Addr) (cap : Nat) (W : World) :
    Calls Ybad.prog 25 #[.agg #[.string name, .int .u32 code, .int .u32 vendor, .bool mand, .int .u8 typ], .slice ao 0 cap] W (GroupPost W code vendor mand []) := by
  obtain ⟨i0, hi, hz0, hz1, hz2⟩ := info_parts info5
  go_enter Ybad.func25, Ybad.ntmps25
  go_wp2_with fail
  refine (encodedLen_none ao cap _).mono ?_
  rintro e w1 ⟨rfl, rfl⟩
  go_wp2_with (at_make; refine wpList_make_own _ rfl _ _ 23 rfl W.heap.size 5 i0 (.int .u8 0) 1 Ybad.underlying23 hi hz0 hz1 _ _ _ 0 rfl rfl ?c0 ?c1 ?c2 ?c3 ?_)
  case c0 => rfl
  case c1 => omega
  case c2 => unfold maxLen; omega
  case c3 => simp; omega
  intro w2 hown2 hg2
  have K2 : Hid (w2.heap[W.heap.size]? = some (.cells #[.string name, .int .u32 code, .int .u32 vendor, .bool mand, .int .u8 typ] 122 (0, 0))) := by
    refine gblock hg2 ?_ (by simp)
    rw [Below.heap_alloc _ _ _ (by simp)]
    exact heap_alloc_new _ _
  have L2 : Hid (w2.heap[W.heap.size + 1]? = some (.cells #[.int .u32 0, .int .u8 0, .int .u32 0, .slice none 0 0] 41 (0, 0))) := by
    refine gblock hg2 ?_ (by simp)
    have := heap_alloc_new (W.alloc (.cells #[.string name, .int .u32 code, .int .u32 vendor, .bool mand, .int .u8 typ] 122)) (.cells #[.int .u32 0, .int .u8 0, .int .u32 0, .slice none 0 0] 41)
    simpa using this
  have HB2 : Hid (Below W.heap.size W w2) := (((Below.refl _ W).alloc (Nat.le_refl _) _).alloc (by simp) _).grown hg2 (by simp; omega) (by intro k hk; cases hk)
  have HO2 : Hid (w2.ownsRow W.heap.size 5 1 (.slice (some ⟨W.heap.size + 1 + 1, 0, none⟩) 0 0) 0 []) := by show w2.ownsRow W.heap.size 5 1 _ 0 []; simpa using hown2
  have d0 : w2.cell? ⟨W.heap.size, 0, none⟩ = some (.string name) := cellOf K2.out
  have d1 : w2.cell? ⟨W.heap.size, 1, none⟩ = some (.int .u32 code) := cellOf K2.out
  have d2 : w2.cell? ⟨W.heap.size, 2, none⟩ = some (.int .u32 vendor) := cellOf K2.out
  have d3 : w2.cell? ⟨W.heap.size, 3, none⟩ = some (.bool mand) := cellOf K2.out
  have d4 : w2.cell? ⟨W.heap.size, 4, none⟩ = some (.int .u8 typ) := cellOf K2.out
  clear hown2 hg2
  go_wp2_with fail
  refine wp_loop_rounds 1 ?_
  rw [rounds_succ]
  go_wp2_with fail
  refine (avp_any name code vendor typ mand (some ⟨W.heap.size + 1 + 1, 0, none⟩) 0 0 _).mono ?_
  rintro e w3 ⟨rfl, hg3⟩
  have HL3 : Hid (w3.heap[W.heap.size + 1]? = _) := gblock hg3 L2.out (by simp)
  have f0 : w3.cell? ⟨W.heap.size + 1, 0, none⟩ = some (.int .u32 0) := cellOf HL3.out
  have f1 : w3.cell? ⟨W.heap.size + 1, 1, none⟩ = some (.int .u8 0) := cellOf HL3.out
  have f2 : w3.cell? ⟨W.heap.size + 1, 2, none⟩ = some (.int .u32 0) := cellOf HL3.out
  have f3 : w3.cell? ⟨W.heap.size + 1, 3, none⟩ = some (.slice none 0 0) := cellOf HL3.out
  have z0 : w3.frozen? ⟨W.heap.size + 1, 0, none⟩ = false := frozenOf HL3.out
  have z1 : w3.frozen? ⟨W.heap.size + 1, 1, none⟩ = false := frozenOf HL3.out
  have z2 : w3.frozen? ⟨W.heap.size + 1, 2, none⟩ = false := frozenOf HL3.out
  have z3 : w3.frozen? ⟨W.heap.size + 1, 3, none⟩ = false := frozenOf HL3.out
  have HO3 : Hid (w3.ownsRow W.heap.size 5 1 (.slice (some ⟨W.heap.size + 1 + 1, 0, none⟩) 0 0) 0 []) := HO2.out.kept hg3 (.inr (by simp [Value.ownBlock]))
  have HB3 : Hid (Below W.heap.size W w3) := HB2.out.grown hg3 HB2.out.size (by intro k hk; cases hk)
  clear hg3 HO2 K2 L2 HB2 HL3 d0 d1 d2 d3 d4
  go_wp2
  refine bodyPost_ret (v := .agg #[.int .u32 code, .int .u8 (aflags vendor mand), .int .u32 vendor, .slice (some ⟨W.heap.size + 1 + 1, 0, none⟩) 0 0]) (by simp [results, Ybad.results25, go_sem, f0, f1, f2, f3]) rfl ?_
  refine ⟨W.heap.size + 1 + 1, 0, rfl, rfl, ?_, ?_⟩
  · exact owns_set (owns_set (owns_set (owns_set HO3.out _ _ (by simp)) _ _ (by simp)) _ _ (by simp)) _ _ (by simp)
  · exact (((HB3.out.setCell (by simp) _).setCell (by simp) _).setCell (by simp) _).setCell (by simp) _
end Go.Proofs.YbulkaptmDoor
