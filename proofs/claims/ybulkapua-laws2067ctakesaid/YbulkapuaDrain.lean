/-
  LawS2067CDrain: the walk.
-/
import Derived.Test.YbulkapuaTake
import Derived.LoopTactic
import Derived.Laws.CopyOwn
import Derived.Deep.LoopGhost
namespace Go.Proofs.Ybulkapua
open Go.RowKit
set_option linter.unusedVariables false
set_option linter.unusedSimpArgs false
set_option maxRecDepth 100000

/-- A slice of integers that came in: nil; or a row of 'cap' cells, the numbers 'zs'. -/
def IsRow (k : IntKind) (w : World) (a : Option Addr) (len cap : Nat) (zs : List Int) : Prop :=
  (a = none ∧ len = 0 ∧ cap = 0 ∧ zs = []) ∨
  ∃ x, a = some x ∧ len ≤ cap ∧ cap ≤ maxLen ∧ zs.length = cap ∧ (∀ i, i < zs.length → w.cell? (x.add i) = some (.int k (zs.getD i 0))) ∧ ∀ n ∈ zs, (Lit.int k n).wf = true

/-- The choice (at c), the chooser (at k), the machines (at m) behind a take that left e machines. -/
structure St (W w : World) (c k m n : Nat) (zs : List Int) (e : Nat) : Prop where
  h0 : w.cell? ⟨c, 0, none⟩ = some (.int .i32 0)
  h2 : w.cell? ⟨c, 2, none⟩ = some (.slice (some ⟨m, 0, none⟩) n n)
  h3 : w.cell? ⟨c, 3, none⟩ = some (.int .i64 e)
  h4 : w.cell? ⟨c, 4, none⟩ = some (.int .i64 (-1))
  h23 : ∃ v, w.cell? ⟨k, 23, none⟩ = some (.int .i64 v)
  z0 : w.frozen? ⟨c, 0, none⟩ = false
  z3 : w.frozen? ⟨c, 3, none⟩ = false
  z23 : w.frozen? ⟨k, 23, none⟩ = false
  row : ∀ i, i < n → w.cell? ⟨m, i, none⟩ = some (.int .i64 (zs.getD i 0))
  hck : c ≠ k
  hmc : m ≠ c
  hmk : m ≠ k
  bel : Below W.heap.size W w
  bc : W.heap.size ≤ c
  bk : W.heap.size ≤ k

theorem St.drewN {W w : World} {c k m n : Nat} {zs : List Int} {e : Nat} (h : St W w c k m n zs e) (q : Nat) : St W (w.drewN q) c k m n zs e :=
  ⟨h.h0, h.h2, h.h3, h.h4, h.h23, h.z0, h.z3, h.z23, h.row, h.hck, h.hmc, h.hmk, below_drewN h.bel _, h.bc, h.bk⟩

theorem take_st {W w : World} {c k m n f r : Nat} {zs : List Int} (h : St W w c k m n zs (f + r)) (hn : n ≤ 1024) (hl : f + r ≤ n) (hf : f = f + r - 32) :
    Calls Yba.prog 6 #[.pointer (some ⟨c, 0, none⟩), .pointer (some ⟨k, 0, none⟩)] w fun e w' => e = .returned (.slice (some ⟨m, f, none⟩) r (n - f)) ∧ St W w' c k m n zs f ∧ w'.cell? ⟨k, 23, none⟩ = some (.int .i64 (-1)) := by
  obtain ⟨v, h23⟩ := h.h23
  refine (take_at c k m n (f + r) f (-1) v w (by decide) h.hck hl hn hf h.h0 h.h2 h.h3 h.h4 h23 h.z0 h.z3 h.z23).mono ?_
  rintro e w' ⟨rfl, q, rfl⟩
  have hkc := h.hck.symm
  have hck := h.hck
  have hmc := h.hmc
  have hmk := h.hmk
  have hcm := h.hmc.symm
  have hkm := h.hmk.symm
  refine ⟨by rw [Nat.add_sub_cancel_left], St.drewN ⟨?_, ?_, ?_, ?_, ⟨-1, ?_⟩, ?_, ?_, ?_, ?_, h.hck, h.hmc, h.hmk, ?_, h.bc, h.bk⟩ q, ?_⟩
  · simp [go_sem, h.h0, hck, hkc]
  · simp [go_sem, h.h2, hck, hkc]
  · simp [go_sem, h.h3, hck, hkc]
  · simp [go_sem, h.h4, hck, hkc]
  · simp [go_sem, h23, hck, hkc]
  · simp [h.z0]
  · simp [h.z3]
  · simp [h.z23]
  · intro i hi
    simp [go_sem, h.row i hi, hmc, hmk, hcm, hkm]
  · exact (((h.bel.setCell h.bc _).setCell h.bk _).setCell h.bc _).setCell h.bc _
  · simp [go_sem, h23, hck, hkc]

theorem IsRow.take_length {k : IntKind} {w : World} {a : Option Addr} {len cap : Nat} {zs : List Int} (h : IsRow k w a len cap zs) : (zs.take len).length = len := by
  rcases h with ⟨_, h1, h2, h3⟩ | ⟨x, _, hl, _, hz, _, _⟩
  · subst h1; subst h3; rfl
  · rw [List.length_take]; omega
theorem IsRow.cells {k : IntKind} {w w' : World} {a : Option Addr} {len cap : Nat} {zs : List Int} (h : IsRow k w a len cap zs) (hb : Below w.heap.size w w') :
    0 < len → ∃ x, a = some x ∧ ∀ i, i < len → w'.cell? (x.add i) = some (.int k (zs.getD i 0)) := by
  intro hpos
  rcases h with ⟨_, h1, _, _⟩ | ⟨x, hx, hl, _, hz, hc, _⟩
  · omega
  · refine ⟨x, hx, fun i hi => ?_⟩
    have := hc i (by omega)
    rw [hb.cell (World.block_lt_of_cell? _ _ this), this]

theorem IsRow.at_ {k : IntKind} {w w' : World} {x : Addr} {len cap : Nat} {zs : List Int} (h : IsRow k w (some x) len cap zs) (hb : Below w.heap.size w w') (i : Nat) (hi : i < len) : w'.cell? (x.add i) = some (.int k (zs.getD i 0)) := by
  obtain ⟨y, hy, hc⟩ := h.cells hb (by omega)
  obtain rfl := Option.some.inj hy
  exact hc i hi

theorem info3 : (Yba.prog.info? 3).map (fun i => (i.zero, i.size, i.bytes)) = some (some (.int .i64 0), 1, 8) := by kernel_rfl
theorem size3 : (Yba.prog.info? 3).map (·.size) = some 1 := by kernel_rfl

/-- The row that make laid. -/
theorem row_of_made {w : World} {B g n : Nat} {xs : List Value} (h : w.ownsRow B 3 1 (.slice (some ⟨g, 0, none⟩) n n) n xs) : ∃ cur : List Value, cur.length = n ∧ w.heap[g]? = some (.cells cur.toArray 3 (0, 0)) := by
  rcases h.2 with ⟨h, _⟩ | ⟨g', cap', cur, h, hbg, hg, hnc, hcm, hcs, htake⟩
  · cases h
  · simp only [Value.slice.injEq, Option.some.injEq, Addr.mk.injEq, and_true, true_and] at h
    obtain ⟨rfl, rfl⟩ := h
    exact ⟨cur.toList, by simpa using hcs, by simpa using hg⟩

set_option maxHeartbeats 3200000 in
theorem drain_walk (a0 : Option Addr) (len0 cap0 : Nat) (z0 : List Int) (a1 : Int) (w : World) (w0 : IsRow .i64 w a0 len0 cap0 z0) (w1 : (Lit.int .u64 a1).wf = true) :
    Calls Yba.prog 4 #[.slice a0 len0 cap0, .int .u64 a1] w fun e w' => e = .returned (.bool true) ∧ Below w.heap.size w w' := by
  obtain ⟨i0, hi, hz0, hz1, hz2⟩ := info_parts info3
  have hu := bounds_u64 w1
  obtain ⟨hu0, hu1⟩ := hu
  have HR : Hid (IsRow .i64 w a0 len0 cap0 z0) := w0
  have hlm : len0 ≤ maxLen := by
    rcases w0 with ⟨_, h1, _, _⟩ | ⟨x, _, hl, hm, _⟩
    · omega
    · omega
  unfold maxLen at hlm
  have hlm' : (len0 : Int) ≤ 9223372036854775807 := by omega
  clear w0 w1
  by_cases hbig : (1024 : Int) < len0
  · go_enter Yba.func4, Yba.ntmps4
    go_wp2
    go_ret
    exact ⟨rfl, Below.refl _ _⟩
  · have hsm : len0 ≤ 1024 := by omega
    have hsm' : (len0 : Int) ≤ 1024 := by omega
    obtain ⟨l, hl, hle⟩ : ∃ l : Nat, wrap64 (a1 % ((len0 : Int) + 1)) = (l : Int) ∧ l ≤ len0 := by
      have h1 : 0 ≤ a1 % ((len0 : Int) + 1) := Int.emod_nonneg _ (by omega)
      have h2 : a1 % ((len0 : Int) + 1) < (len0 : Int) + 1 := Int.emod_lt_of_pos _ (by omega)
      refine ⟨(a1 % ((len0 : Int) + 1)).toNat, ?_, by omega⟩
      unfold wrap64
      omega
    have hle' : (l : Int) ≤ len0 := by omega
    go_enter Yba.func4, Yba.ntmps4
    go_wp2_with (at_make; refine wpList_make_full _ rfl _ _ 22 rfl w.heap.size 3 i0 (.int .i64 0) 1 Yba.underlying22 hi hz0 hz1 _ _ _ _ len0 rfl rfl ?c0 ?c1 ?c2 ?c3 ?c4 ?_)
    case c0 => rfl
    case c1 => rfl
    case c2 => omega
    case c3 => unfold maxLen; omega
    intro wm hown hg
    obtain ⟨m, hm⟩ : ∃ m, m = w.heap.size := ⟨_, rfl⟩
    rw [← hm] at hown ⊢
    obtain ⟨cur, hcl, hrow⟩ := row_of_made hown
    have HCL : Hid (cur.length = len0) := hcl
    have HROW : Hid (wm.heap[m]? = some (.cells cur.toArray 3 (0, 0))) := hrow
    have HB : Hid (Below w.heap.size w wm) := ⟨hg.os, hg.tape, hg.output, hg.size, fun k hk => hg.block k hk (by simp)⟩
    have HM : Hid (m = w.heap.size) := hm
    obtain ⟨cs, hcs⟩ : ∃ cs, cs = (z0.take len0).map (Value.int .i64) := ⟨_, rfl⟩
    have HCS : Hid (cs = (z0.take len0).map (Value.int .i64)) := hcs
    have HCN : Hid (cs.length = len0) := by show cs.length = len0; rw [hcs, List.length_map]; exact HR.out.take_length
    clear hown hg hcl hrow hm hcs
    go_wp2_with (refine wpList_copy_splice rfl _ _ 22 22 rfl 3 Yba.underlying22 size3 _ _ _ _ _ _ rfl rfl m 0 cur 3 HROW.out cs ?d0 ?d1 ?d2 ?d3 w.heap.size w HB.out ?d4 ?_)
    case d0 => rw [HCN.out]; simp
    case d1 =>
      intro hpos
      obtain ⟨x, hx, hc⟩ := HR.out.cells HB.out (by rw [← HCN.out]; exact hpos)
      refine ⟨x, hx, ?_⟩
      intro j u hj
      have hjl : j < cs.length := by
        rcases Nat.lt_or_ge j cs.length with h | h
        · exact h
        · rw [List.getElem?_eq_none h] at hj; cases hj
      rw [hc j (by rw [← HCN.out]; exact hjl), ← hj, HCS.out]
      have hl := HR.out.take_length
      have h1 : j < len0 := by rw [← HCN.out]; exact hjl
      have h2 : j < z0.length := by rw [List.length_take] at hl; omega
      simp [h1, List.getElem?_eq_getElem h2, List.getD]
    case d2 => rw [HCN.out, HCL.out]; omega
    case d3 => rw [HCS.out]; exact ints_oneCell _ _
    case d4 => rw [HM.out]; exact Nat.le_refl _
    intro wcp hg1 hb1
    have HB1 : Hid (Below w.heap.size w wcp) := hb1
    have hs1 := hb1.size
    have HROW1 : Hid (∀ i, i < len0 → wcp.cell? ⟨m, i, none⟩ = some (.int .i64 (z0.getD i 0))) := by
      intro i hi'
      have hl := HR.out.take_length
      have h2 : i < z0.length := by rw [List.length_take] at hl; omega
      have : splice cur 0 cs = cs := by
        unfold splice
        rw [List.take_zero, List.nil_append, Nat.zero_add, HCN.out, ← HCL.out, List.drop_length, List.append_nil]
      have hh := hg1.out
      rw [this] at hh
      simp [World.cell?, hh, HCS.out, hi', List.getElem?_eq_getElem h2, List.getD]
    have hmc : m < wcp.heap.size := by
      rcases Nat.lt_or_ge m wcp.heap.size with h | h
      · exact h
      · have := hg1.out; rw [Array.getElem?_eq_none h] at this; cases this
    clear hg1 hb1 HROW HB HCS HCN HCL
    go_wp2_with fail
    simp only [hl]
    obtain ⟨wS, hwS⟩ : ∃ wS, wS = ((wcp.alloc (.cells #[.int .i32 0, .int .u32 0, .slice (some ⟨m, 0, none⟩) len0 len0, .int .i64 l, .int .i64 (-1), .slice none 0 0, .bool false] 41)).alloc (.cells #[.pointer none, .int .u64 0, .int .u64 0, .int .u64 0, .int .u64 0, .int .u64 0, .int .u64 0, .int .u64 0, .int .u64 0, .int .u64 0, .int .u64 0, .int .u64 0, .int .u64 0, .int .u64 0, .int .u64 0, .int .u64 0, .bool false, .bool false, .pointer none, .int .i64 0, .pointer none, .int .i64 0, .pointer none, .int .i64 3, .slice none 0 0, .slice none 0 0] 51)) := ⟨_, rfl⟩
    rw [← hwS]
    obtain ⟨c, hc⟩ : ∃ c, c = wcp.heap.size := ⟨_, rfl⟩
    rw [← hc]
    have hst : Hid (St w wS c (c + 1) m len0 z0 l) := by
      have hb : Below w.heap.size w wS := by rw [hwS]; exact (HB1.out.alloc hs1 _).alloc (by simp; omega) _
      rw [hwS, hc]
      refine ⟨by simp, by simp, by simp, by simp, ⟨3, by simp⟩, by simp, by simp, by simp, ?_, by omega, by omega, by omega, ?_, by omega, by omega⟩
      · intro i hi'
        rw [World.cell?_alloc_lt _ _ _ (by simp; omega), World.cell?_alloc_lt _ _ _ hmc]
        exact HROW1.out i hi'
      · rw [← hwS]; exact hb
    have hcw : w.heap.size ≤ c := by omega
    clear hwS hc hmc HROW1 HB1 hs1 HM
    go_loopw [9, 10] (fun e st wr => ∃ s ee : Nat, s ≤ l / 32 + 1 ∧ Hid (ee = l - 32 * s) ∧ Hid (0 < s → 32 * (s - 1) < l) ∧ ee ≤ l ∧ e = .int .i64 ee ∧ st = .int .i64 s ∧ Hid (St w wr c (c + 1) m len0 z0 ee)) (fun _ st _ => l / 32 + 2 - (intOf st).toNat)
    case atStart => exact ⟨0, l, by omega, by show l = l - 32 * 0; omega, by intro h; omega, Nat.le_refl _, rfl, rfl, hst⟩
    case round =>
      obtain ⟨s, ee, hs, HE, HS, hel, rfl, rfl, HST⟩ := hrel
      clear hst
      obtain ⟨f, r, hfr, hf⟩ : ∃ f r, ee = f + r ∧ f = f + r - 32 := ⟨ee - 32, ee - (ee - 32), by omega, by omega⟩
      subst hfr
      have HF : Hid (f = f + r - 32) := hf
      have hr32 : (r : Int) ≤ 32 := by omega
      have hfl : (f : Int) + r ≤ l := by omega
      have hcs : r < 32 → f = 0 := by omega
      have HCS : Hid (r < 32 → f = 0) := hcs
      have hs' : (s : Int) ≤ (l : Int) / 32 + 1 := by omega
      clear hf hcs
      go_wp2_with fail
      refine (take_st HST.out hsm (by omega) HF.out).mono ?_
      rintro e w' ⟨rfl, hst', h23'⟩
      have HST' : Hid (St w w' c (c + 1) m len0 z0 f) := hst'
      have h3' := hst'.h3
      clear hst' HST
      by_cases hr0 : r = 0
      · subst hr0
        have hf0 : f = 0 := HCS.out (by omega)
        subst hf0
        clear HF HCS HE HS
        go_wp2
        go_ret
        exact ⟨rfl, HST'.out.bel⟩
      · have hr0' : (0 : Int) < r := by omega
        obtain ⟨wo, rfl⟩ : ∃ wo : World, wo = w' := ⟨_, rfl⟩
        obtain ⟨x, hx, -⟩ := HR.out.cells (Below.refl _ _) (by omega)
        subst hx
        rcases (show r < 32 ∧ f = 0 ∨ r = 32 by have := HCS.out; omega) with ⟨hrlt, rfl⟩ | rfl
        · have hrlt' : (r : Int) < 32 := by omega
          go_wp2_with fail
          go_loopw [89] (fun i wq => ∃ kk : Nat, kk ≤ r ∧ i = .int .i64 kk ∧ Hid (St w wq c (c + 1) m len0 z0 0)) (fun i _ => r - (intOf i).toNat)
          case atStart => exact ⟨0, Nat.zero_le _, rfl, HST'⟩
          case round =>
            obtain ⟨kk, hkk, rfl, HQ⟩ := hrel
            clear HST' h3' h23'
            by_cases hlt : kk < r
            · have cA : wr.cell? ⟨m, kk, none⟩ = some (.int .i64 (z0.getD (kk) 0)) := HQ.out.row _ (by omega)
              have cB : wr.cell? (x.add (kk)) = some (.int .i64 (z0.getD (kk) 0)) := HR.out.at_ HQ.out.bel _ (by omega)
              have b1 : (kk : Int) < r := by omega
              have b2 : (kk : Int) < len0 := by omega
              go_wp2_with fail
              go_quiet (fail)
              go_wp2
              go_roundw
              case rel => exact ⟨kk + 1, by omega, by go_num, HQ.out.drewN _⟩
              case measure => simp [intOf]; omega
            · have hk3 := HQ.out.h3
              obtain rfl : kk = r := by omega
              go_wp2
              go_roundw
              case rel => exact ⟨s + 1, 0, by have := HE.out; omega, by show 0 = l - 32 * (s + 1); have := HE.out; have := HF.out; omega, by intro _; have := HE.out; show 32 * (s + 1 - 1) < l; omega, by omega, by simp, by go_num, HQ⟩
              case measure => simp [intOf]; have := HE.out; omega
        · clear HCS
          go_wp2_with fail
          go_loopw [89] (fun i wq => ∃ kk : Nat, kk ≤ 32 ∧ i = .int .i64 kk ∧ Hid (St w wq c (c + 1) m len0 z0 f)) (fun i _ => 32 - (intOf i).toNat)
          case atStart => exact ⟨0, Nat.zero_le _, rfl, HST'⟩
          case round =>
            obtain ⟨kk, hkk, rfl, HQ⟩ := hrel
            clear HST' h3' h23'
            by_cases hlt : kk < 32
            · have cA : wr.cell? ⟨m, f + kk, none⟩ = some (.int .i64 (z0.getD (f + kk) 0)) := HQ.out.row _ (by omega)
              have cB : wr.cell? (x.add (f + kk)) = some (.int .i64 (z0.getD (f + kk) 0)) := HR.out.at_ HQ.out.bel _ (by omega)
              have b1 : (kk : Int) < 32 := by omega
              have b2 : (f : Int) + (kk : Int) < len0 := by omega
              go_wp2_with fail
              go_quiet (fail)
              go_wp2
              go_roundw
              case rel => exact ⟨kk + 1, by omega, by go_num, HQ.out.drewN _⟩
              case measure => simp [intOf]; omega
            · have hk3 := HQ.out.h3
              obtain rfl : kk = 32 := by omega
              go_wp2
              go_roundw
              case rel => exact ⟨s + 1, f, by have := HE.out; omega, by show f = l - 32 * (s + 1); have := HE.out; have := HF.out; omega, by intro _; have := HE.out; show 32 * (s + 1 - 1) < l; omega, by omega, by simp, by go_num, HQ⟩
              case measure => simp [intOf]; have := HE.out; omega
end Go.Proofs.Ybulkapua
