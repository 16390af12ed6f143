/-
  LawS2067CTake: the walk.
-/
import Derived.Test.YbulkapuaAft
import Derived.Deep.DeepCutAuto
import Derived.Deep.RegionHeld3
namespace Go.Proofs.Ybulkapua
open Go.RowKit
set_option linter.unusedVariables false
set_option linter.unusedSimpArgs false
set_option maxRecDepth 100000

theorem info30 : (Yba.prog.info? 30).map (fun i => (i.zero, i.size, i.bytes)) = some (some (.agg #[.int .u64 0, .int .u64 0, .int .u64 0, .int .u64 0, .int .u64 0, .int .u64 0]), 6, 48) := by kernel_rfl

theorem gblock {w w' : World} {k : Nat} {o : Obj} (hg : w.grownBy w' none) (hk : w.heap[k]? = some o) : w'.heap[k]? = some o := by
  rw [hg.block k ?_ (by simp)]
  · exact hk
  · rcases Nat.lt_or_ge k w.heap.size with h | h
    · exact h
    · rw [Array.getElem?_eq_none h] at hk; cases hk
theorem lt_of_block {w : World} {k : Nat} {o : Obj} (h : w.heap[k]? = some o) : k < w.heap.size := by
  rcases Nat.lt_or_ge k w.heap.size with hh | hh
  · exact hh
  · rw [Array.getElem?_eq_none hh] at h; cases h
theorem Part.grow {w w' : World} {b n : Nat} {xs : List Int} (h : Part w b xs n) (hg : w.grownBy w' none) : Part w' b xs n := by
  obtain ⟨r, h1, h2⟩ := h.row
  exact ⟨r, gblock hg h1, h2⟩
theorem part_of_made {w : World} {B g n : Nat} {xs : List Value} (h : w.ownsRow B 30 6 (.slice (some ⟨g, 0, none⟩) n n) n xs) : Part w g [] n := by
  rcases h.2 with ⟨h, _⟩ | ⟨g', cap', cur, h, hbg, hg, hnc, hcm, hcs, htake⟩
  · cases h
  · simp only [Value.slice.injEq, Option.some.injEq, Addr.mk.injEq, and_true, true_and] at h
    obtain ⟨rfl, rfl⟩ := h
    exact ⟨cur.toList, by simpa [flatR] using hg, by simpa using hcs⟩
theorem gbel {W w w' : World} (hb : Below W.heap.size W w) (hg : w.grownBy w' none) : Below W.heap.size W w' :=
  hb.trans ⟨hg.os, hg.tape, hg.output, hg.size, fun k hk => hg.block k (Nat.lt_of_lt_of_le hk hb.size) (by simp)⟩

theorem gcell {w w' : World} {a : Addr} {v : Value} (hg : w.grownBy w' none) (h : w.cell? a = some v) : w'.cell? a = some v := by
  rw [World.cell?_of_block (hg.block _ (World.block_lt_of_cell? _ _ h) (by simp)), h]
theorem gdrewN (w : World) (q : Nat) : w.grownBy (w.drewN q) none := ⟨rfl, rfl, rfl, Nat.le_refl _, fun _ _ _ => rfl⟩
theorem Aft.grow {W w w' : World} {c k m b g f : Nat} {best : Int} {cs : List Value} {xs ys : List Int} (h : Aft W w c k m b g f best cs xs ys) (hg : w.grownBy w' none) : Aft W w' c k m b g f best cs xs ys :=
  ⟨gcell hg h.h3, gcell hg h.h4, gcell hg h.h23, gblock hg h.M, gblock hg h.B, gblock hg h.G, gbel h.bel hg⟩
theorem row_cell {w : World} {b : Nat} {xs : List Int} (h : w.heap[b]? = some (.cells (flatR xs).toArray 30 (0, 0))) (i j : Nat) (hi : i < xs.length) (hj : j < 6) (v : Value) (hv : (rat (xs.getD i 0))[j]? = some v) : w.cell? ⟨b, i * 6 + j, none⟩ = some v := by
  rw [cellOf h, List.getElem?_toArray, flatR_get xs i j hi hj, hv]
theorem newYs_length (best : Int) (xs ys : List Int) : (newYs best xs ys).length = ys.length := by
  unfold newYs
  split
  · simp; omega
  · rfl
theorem newYs_get (best : Int) (xs ys : List Int) (i : Nat) (hi : i < ys.length) : (newYs best xs ys).getD i 0 = if 0 ≤ best ∧ i < xs.length then xs.getD i 0 else ys.getD i 0 := by
  unfold newYs
  by_cases hb : 0 ≤ best
  · rw [if_pos hb]
    by_cases hx : i < xs.length
    · rw [if_pos ⟨hb, hx⟩]
      simp only [List.getD]
      rw [List.getElem?_append_left (by simp; omega), List.getElem?_take_of_lt (by omega)]
    · rw [if_neg (by omega)]
      simp only [List.getD]
      rw [List.getElem?_append_right (by simp; omega), List.getElem?_drop]
      congr 2
      simp
      omega
  · rw [if_neg hb, if_neg (by omega)]

theorem eq25d (a : Int) (w : World) (d : Nat) : (Op.equalIn (d + 1) 25 (.int .u64 a) (.int .u64 a)).run Yba.prog w = .ok true w := by
  have u25 := Yba.runUnderlying25
  simp [Op.equalIn, u25]
theorem eq28d (a : Int) (w : World) (d : Nat) : (Op.equalIn (d + 2) 28 (.agg #[.int .u64 a, .int .u64 0, .int .u64 0]) (.agg #[.int .u64 a, .int .u64 0, .int .u64 0])).run Yba.prog w = .ok true w := by
  have u28 := Yba.runUnderlying28
  have s25 := Yba.sizeOf25
  have g25 := Yba.isAgg25
  have e25 := fun a w => eq25d a w d
  have r3 : List.range' 0 3 = [0, 1, 2] := rfl
  unfold Op.equalIn
  simp [u28, s25, g25, e25, r3, part, go_sem]
theorem eq28 (a : Int) (w : World) : (Op.equalIn 9999 28 (.agg #[.int .u64 a, .int .u64 0, .int .u64 0]) (.agg #[.int .u64 a, .int .u64 0, .int .u64 0])).run Yba.prog w = .ok true w := eq28d a w 9997
theorem gtrans {a b c : World} (h : a.grownBy b none) (k : b.grownBy c none) : a.grownBy c none :=
  ⟨k.os.trans h.os, k.tape.trans h.tape, k.output.trans h.output, Nat.le_trans h.size k.size, fun i hi hne => (k.block i (Nat.lt_of_lt_of_le hi h.size) hne).trans (h.block i hi hne)⟩
theorem Aft.blocks {W w w2 : World} {c k m b g f N : Nat} {best : Int} {cs : List Value} {xs ys : List Int} (h : Aft W w c k m b g f best cs xs ys) (hN : ∀ i, i < N → w2.heap[i]? = w.heap[i]?) (hc : c < N) (hk : k < N) (hm : m < N) (hb : b < N) (hg : g < N) (bel : Below W.heap.size W w2) : Aft W w2 c k m b g f best cs xs ys :=
  ⟨by rw [World.cell?_of_block (hN c hc)]; exact h.h3, by rw [World.cell?_of_block (hN c hc)]; exact h.h4, by rw [World.cell?_of_block (hN k hk)]; exact h.h23, by rw [hN m hm]; exact h.M, by rw [hN b hb]; exact h.B, by rw [hN g hg]; exact h.G, bel⟩
theorem blocks6 {w : World} {b o i : Nat} {u0 u1 u2 u3 u4 u5 : Value} (hne : i ≠ b) :
    ((((((w.setCell ⟨b, o, none⟩ u0).setCell ⟨b, o + 1, none⟩ u1).setCell ⟨b, o + 2, none⟩ u2).setCell ⟨b, o + 3, none⟩ u3).setCell ⟨b, o + 4, none⟩ u4).setCell ⟨b, o + 5, none⟩ u5).heap[i]? = w.heap[i]? := by
  rw [Below.heap_setCell _ _ _ _ hne, Below.heap_setCell _ _ _ _ hne, Below.heap_setCell _ _ _ _ hne, Below.heap_setCell _ _ _ _ hne, Below.heap_setCell _ _ _ _ hne, Below.heap_setCell _ _ _ _ hne]

theorem other6 {w : World} {b o k : Nat} {u0 u1 u2 u3 u4 u5 : Value} {x : Obj} (h : w.heap[k]? = some x) (hne : k ≠ b) :
    ((((((w.setCell ⟨b, o, none⟩ u0).setCell ⟨b, o + 1, none⟩ u1).setCell ⟨b, o + 2, none⟩ u2).setCell ⟨b, o + 3, none⟩ u3).setCell ⟨b, o + 4, none⟩ u4).setCell ⟨b, o + 5, none⟩ u5).heap[k]? = some x := by
  rw [Below.heap_setCell _ _ _ _ hne, Below.heap_setCell _ _ _ _ hne, Below.heap_setCell _ _ _ _ hne, Below.heap_setCell _ _ _ _ hne, Below.heap_setCell _ _ _ _ hne, Below.heap_setCell _ _ _ _ hne]
  exact h
theorem below6 {W w : World} {b o : Nat} {u0 u1 u2 u3 u4 u5 : Value} (h : Below W.heap.size W w) (hb : W.heap.size ≤ b) :
    Below W.heap.size W ((((((w.setCell ⟨b, o, none⟩ u0).setCell ⟨b, o + 1, none⟩ u1).setCell ⟨b, o + 2, none⟩ u2).setCell ⟨b, o + 3, none⟩ u3).setCell ⟨b, o + 4, none⟩ u4).setCell ⟨b, o + 5, none⟩ u5) :=
  (((((h.setCell hb _).setCell hb _).setCell hb _).setCell hb _).setCell hb _).setCell hb _
theorem Part.whole {w : World} {b n : Nat} {xs : List Int} (h : Part w b xs n) (hn : n ≤ xs.length) : w.heap[b]? = some (.cells (flatR xs).toArray 30 (0, 0)) := by
  obtain ⟨r, h1, h2⟩ := h.row
  have : r = [] := List.eq_nil_of_length_eq_zero (by rw [h2, Nat.sub_eq_zero_of_le hn])
  subst this
  simpa using h1

set_option maxHeartbeats 6400000 in
theorem take_walk (a0 : Option Addr) (len0 cap0 : Nat) (z0 : List Int) (a1 : Int) (a2 : Int) (a3 : Option Addr) (len3 cap3 : Nat) (z3 : List Int) (a4 : Int) (a5 : Int) (w : World) (w0 : IsRow .i64 w a0 len0 cap0 z0) (w1 : (Lit.int .u64 a1).wf = true) (w2 : (Lit.int .i64 a2).wf = true) (w3 : IsRow .u64 w a3 len3 cap3 z3) (w4 : (Lit.int .u8 a4).wf = true) (w5 : (Lit.int .u64 a5).wf = true) :
    Calls Yba.prog 3 #[.slice a0 len0 cap0, .int .u64 a1, .int .i64 a2, .slice a3 len3 cap3, .int .u8 a4, .int .u64 a5] w fun e w' => e = .returned (.bool true) ∧ Below w.heap.size w w' := by
  obtain ⟨i0, hi, hz0, hz1, hz2⟩ := info_parts info3
  obtain ⟨i1, hi1, hy0, hy1, hy2⟩ := info_parts info30
  obtain ⟨hu0, hu1⟩ := bounds_u64 w1
  obtain ⟨hb0, hb1⟩ := bounds_i64 w2
  obtain ⟨hv0, hv1⟩ := bounds_u8 w4
  obtain ⟨hx0, hx1⟩ := bounds_u64 w5
  have HR : Hid (IsRow .i64 w a0 len0 cap0 z0) := w0
  have HX : Hid (IsRow .u64 w a3 len3 cap3 z3) := w3
  have hlm : len0 ≤ 9223372036854775807 := by
    rcases w0 with ⟨_, h1, _, _⟩ | ⟨x, _, hl, hm, _⟩
    · omega
    · unfold maxLen at hm; omega
  have hlm3 : len3 ≤ 9223372036854775807 := by
    rcases w3 with ⟨_, h1, _, _⟩ | ⟨x, _, hl, hm, _⟩
    · omega
    · unfold maxLen at hm; omega
  clear w0 w1 w2 w3 w4 w5
  by_cases hbig : (1024 : Int) < len0
  · go_enter Yba.func3, Yba.ntmps3
    go_wp2
    go_ret
    exact ⟨rfl, Below.refl _ _⟩
  by_cases hbig3 : (1024 : Int) < len3
  · go_enter Yba.func3, Yba.ntmps3
    go_wp2
    go_ret
    exact ⟨rfl, Below.refl _ _⟩
  have hsm : len0 ≤ 1024 := by omega
  have hsm' : (len0 : Int) ≤ 1024 := by omega
  have hsm3 : len3 ≤ 1024 := by omega
  have hsm3' : (len3 : Int) ≤ 1024 := by omega
  obtain ⟨l, hl, hle⟩ : ∃ l : Nat, wrap64 (a1 % ((len0 : Int) + 1)) = (l : Int) ∧ l ≤ len0 := by
    have h1 : 0 ≤ a1 % ((len0 : Int) + 1) := Int.emod_nonneg _ (by omega)
    have h2 : a1 % ((len0 : Int) + 1) < (len0 : Int) + 1 := Int.emod_lt_of_pos _ (by omega)
    refine ⟨(a1 % ((len0 : Int) + 1)).toNat, ?_, by omega⟩
    unfold wrap64
    omega
  have hle' : (l : Int) ≤ len0 := by omega
  obtain ⟨nw, rfl⟩ : ∃ nw : Nat, a4 = (nw : Int) := ⟨a4.toNat, by omega⟩
  go_enter Yba.func3, Yba.ntmps3
  go_wp2_with (at_make; refine wpList_make_full _ rfl _ _ 22 rfl w.heap.size 3 i0 (.int .i64 0) 1 Yba.underlying22 hi hz0 hz1 _ _ _ _ len0 rfl rfl ?c0 ?c1 ?c2 ?c3 ?c4 ?_)
  case c0 => rfl
  case c1 => rfl
  case c2 => omega
  case c3 => unfold maxLen; omega
  intro wm hown hg
  obtain ⟨m, hm⟩ : ∃ m, m = w.heap.size := ⟨_, rfl⟩
  rw [← hm] at hown ⊢
  obtain ⟨cur, hcl, hrow⟩ := row_of_made hown
  have HCL : Hid (cur.length = len0) := hcl
  have HROW : Hid (wm.heap[m]? = some (.cells cur.toArray 3 (0, 0))) := hrow
  have HB : Hid (Below w.heap.size w wm) := ⟨hg.os, hg.tape, hg.output, hg.size, fun k hk => hg.block k hk (by simp)⟩
  have HM : Hid (m = w.heap.size) := hm
  obtain ⟨cs, hcs⟩ : ∃ cs, cs = (z0.take len0).map (Value.int .i64) := ⟨_, rfl⟩
  have HCS : Hid (cs = (z0.take len0).map (Value.int .i64)) := hcs
  have HCN : Hid (cs.length = len0) := by show cs.length = len0; rw [hcs, List.length_map]; exact HR.out.take_length
  clear hown hg hcl hrow hm hcs
  go_wp2_with (refine wpList_copy_splice rfl _ _ 22 22 rfl 3 Yba.underlying22 size3 _ _ _ _ _ _ rfl rfl m 0 cur 3 HROW.out cs ?d0 ?d1 ?d2 ?d3 w.heap.size w HB.out ?d4 ?_)
  case d0 => rw [HCN.out]; simp
  case d1 =>
    intro hpos
    obtain ⟨x, hx, hc⟩ := HR.out.cells HB.out (by rw [← HCN.out]; exact hpos)
    refine ⟨x, hx, ?_⟩
    intro j u hj
    have hjl : j < cs.length := by
      rcases Nat.lt_or_ge j cs.length with h | h
      · exact h
      · rw [List.getElem?_eq_none h] at hj; cases hj
    rw [hc j (by rw [← HCN.out]; exact hjl), ← hj, HCS.out]
    have hl := HR.out.take_length
    have h1 : j < len0 := by rw [← HCN.out]; exact hjl
    have h2 : j < z0.length := by rw [List.length_take] at hl; omega
    simp [h1, List.getElem?_eq_getElem h2, List.getD]
  case d2 => rw [HCN.out, HCL.out]; omega
  case d3 => rw [HCS.out]; exact ints_oneCell _ _
  case d4 => rw [HM.out]; exact Nat.le_refl _
  intro wcp hg1 hb1
  have HB1 : Hid (Below w.heap.size w wcp) := hb1
  have HM1 : Hid (wcp.heap[m]? = some (.cells cs.toArray 3 (0, 0))) := by
    have : splice cur 0 cs = cs := by
      unfold splice
      rw [List.take_zero, List.nil_append, Nat.zero_add, HCN.out, ← HCL.out, List.drop_length, List.append_nil]
    have hh := hg1.out
    rw [this] at hh
    exact hh
  have hm1 : m < wcp.heap.size := lt_of_block HM1.out
  have hwm : w.heap.size ≤ m := by rw [HM.out]; exact Nat.le_refl _
  clear hg1 hb1 HROW HB HCL HM
  go_wp2_with (at_make; refine wpList_make_full _ rfl _ _ 26 rfl w.heap.size 30 i1 (.agg #[.int .u64 0, .int .u64 0, .int .u64 0, .int .u64 0, .int .u64 0, .int .u64 0]) 6 Yba.underlying26 hi1 hy0 hy1 _ _ _ _ len3 rfl rfl ?e0 ?e1 ?e2 ?e3 ?e4 ?_)
  case e0 => rfl
  case e1 => rfl
  case e2 => first | omega | (rw [hy2]; omega)
  case e3 => unfold maxLen; omega
  case e4 => omega
  intro wb hown hg
  obtain ⟨b, hb⟩ : ∃ b, b = wcp.heap.size := ⟨_, rfl⟩
  rw [← hb] at hown ⊢
  have PB0 : Hid (Part wb b [] len3) := part_of_made hown
  have HMb : Hid (wb.heap[m]? = some (.cells cs.toArray 3 (0, 0))) := gblock hg HM1.out
  have HBb : Hid (Below w.heap.size w wb) := gbel HB1.out hg
  have hmb : m < b := by omega
  clear hown hg hb hm1 HM1 HB1
  go_wp2_with fail
  try simp only [hl]
  obtain ⟨X, hX⟩ : ∃ X, X = z3.take len3 := ⟨_, rfl⟩
  have hXl : X.length = len3 := by rw [hX]; exact HX.out.take_length
  have HXe : Hid (∀ k, k < len3 → X.take (k + 1) = X.take k ++ [z3.getD k 0]) := by
    intro k hk
    have h1 : k < z3.length := by have := HX.out.take_length; rw [List.length_take] at this; omega
    rw [List.take_succ_eq_append_getElem (by omega)]
    simp [hX, List.getD, List.getElem?_eq_getElem h1]
  have HXX : Hid (X = z3.take len3) := hX
  have HXl : Hid (X.length = len3) := hXl
  clear hX hXl
  go_loopw [54] (fun i wr => ∃ k : Nat, k ≤ len3 ∧ i = .int .i64 k ∧ Hid (Part wr b (X.take k) len3) ∧ Hid (wr.heap[m]? = some (.cells cs.toArray 3 (0, 0))) ∧ Hid (Below w.heap.size w wr)) (fun i _ => len3 - (intOf i).toNat)
  case atStart => exact ⟨0, Nat.zero_le _, rfl, PB0, HMb, HBb⟩
  case round =>
    obtain ⟨k, hk, rfl, PB, HMr, HBr⟩ := hrel
    clear PB0 HMb HBb
    by_cases hlt : k < len3
    · obtain ⟨x, hx, hc⟩ := HX.out.cells HBr.out (by omega)
      have cX := hc k hlt
      subst hx
      clear hc
      have b1 : (k : Int) < len3 := by omega
      have HE := HXe.out k hlt
      have HE' : Hid (X.take (k + 1) = X.take k ++ [z3.getD k 0]) := HE
      obtain ⟨v, hv⟩ : ∃ v, v = z3.getD k 0 := ⟨_, rfl⟩
      rw [← hv] at cX HE
      have HE2 : Hid (X.take (k + 1) = X.take k ++ [v]) := HE
      have HKL : Hid ((X.take k).length = k) := by show (X.take k).length = k; rw [List.length_take, HXl.out]; omega
      clear hv HE HE'
      go_wp2_with fail
      refine (ratio_any v _).mono ?_
      rintro e w' ⟨rfl, hg⟩
      have PB' : Hid (Part w' b (X.take k) len3) := PB.out.grow hg
      have HMr' : Hid (w'.heap[m]? = _) := gblock hg HMr.out
      have HBr' : Hid (Below w.heap.size w w') := gbel HBr.out hg
      have T : ∀ j, j < 6 → (∃ v, w'.cell? ⟨b, k * 6 + j, none⟩ = some v) ∧ w'.frozen? ⟨b, k * 6 + j, none⟩ = false := by
        intro j hj
        have := PB'.out.there (by rw [HKL.out]; exact hlt) j hj
        rw [HKL.out] at this
        exact this
      obtain ⟨⟨v0, t0⟩, y0⟩ := T 0 (by decide)
      obtain ⟨⟨v1, t1⟩, y1⟩ := T 1 (by decide)
      obtain ⟨⟨v2, t2⟩, y2⟩ := T 2 (by decide)
      obtain ⟨⟨v3, t3⟩, y3⟩ := T 3 (by decide)
      obtain ⟨⟨v4, t4⟩, y4⟩ := T 4 (by decide)
      obtain ⟨⟨v5, t5⟩, y5⟩ := T 5 (by decide)
      rw [Nat.add_zero] at t0 y0
      clear T hg PB HMr HBr cX
      go_wp2
      go_roundw
      case rel =>
        refine ⟨k + 1, by omega, by go_num, ?_, ?_, ?_⟩
        · have := PB'.out.write (by rw [HKL.out]; exact hlt) v
          rw [HKL.out, ← HE2.out] at this
          exact this
        · exact other6 HMr'.out (by omega)
        · exact below6 HBr'.out (by omega)
      case measure => simp [intOf]; omega
    · have hk3 : len3 = k := by omega
      subst hk3
      have HBS : Hid (wr.heap[b]? = some (.cells (flatR X).toArray 30 (0, 0))) := by
        have := PB.out
        rw [List.take_of_length_le (by rw [HXl.out]; exact Nat.le_refl _)] at this
        exact this.whole (by rw [HXl.out]; exact Nat.le_refl _)
      have hbs : b < wr.heap.size := lt_of_block HBS.out
      clear PB
      go_wp2_with (at_make; refine wpList_make_full _ rfl _ _ 26 rfl w.heap.size 30 i1 (.agg #[.int .u64 0, .int .u64 0, .int .u64 0, .int .u64 0, .int .u64 0, .int .u64 0]) 6 Yba.underlying26 hi1 hy0 hy1 _ _ _ _ nw rfl rfl ?g0 ?g1 ?g2 ?g3 ?g4 ?_)
      case g0 => rfl
      case g1 => rfl
      case g2 => first | omega | (rw [hy2]; omega)
      case g3 => unfold maxLen; omega
      case g4 => omega
      intro wg hown hg
      obtain ⟨g, hgg⟩ : ∃ g, g = wr.heap.size := ⟨_, rfl⟩
      rw [← hgg] at hown ⊢
      have PG0 : Hid (Part wg g [] nw) := part_of_made hown
      have HMg : Hid (wg.heap[m]? = some (.cells cs.toArray 3 (0, 0))) := gblock hg HMr.out
      have HBg : Hid (wg.heap[b]? = some (.cells (flatR X).toArray 30 (0, 0))) := gblock hg HBS.out
      have HLg : Hid (Below w.heap.size w wg) := gbel HBr.out hg
      have hbg : b < g := by omega
      clear hown hg hgg hbs HBS HMr HBr
      go_wp2_with fail
      obtain ⟨Y, hY⟩ : ∃ Y : List Int, Y = (List.range nw).map fun (i : Nat) => IntKind.u64.wrap (a5 + (i : Int)) := ⟨_, rfl⟩
      have HYl : Hid (Y.length = nw) := by show Y.length = nw; rw [hY]; simp
      have HYe : Hid (∀ k, k < nw → Y.take (k + 1) = Y.take k ++ [IntKind.u64.wrap (a5 + (k : Int))]) := by
        intro k hk
        rw [List.take_succ_eq_append_getElem (by rw [HYl.out]; exact hk)]
        simp [hY]
      have HYg : Hid (∀ k, k < nw → Y.getD k 0 = IntKind.u64.wrap (a5 + (k : Int))) := by
        intro k hk
        simp [hY, List.getD, hk]
      clear hY
      obtain ⟨wo, rfl⟩ : ∃ wo : World, wo = wr := ⟨_, rfl⟩
      go_loopw [70] (fun i wr => ∃ k : Nat, k ≤ nw ∧ i = .int .i64 k ∧ Hid (Part wr g (Y.take k) nw) ∧ Hid (wr.heap[m]? = some (.cells cs.toArray 3 (0, 0))) ∧ Hid (wr.heap[b]? = some (.cells (flatR X).toArray 30 (0, 0))) ∧ Hid (Below w.heap.size w wr)) (fun i _ => nw - (intOf i).toNat)
      case atStart => exact ⟨0, Nat.zero_le _, rfl, PG0, HMg, HBg, HLg⟩
      case round =>
        obtain ⟨k, hk, rfl, PG, HMr, HBr, HLr⟩ := hrel
        clear PG0 HMg HBg HLg
        by_cases hlt : k < nw
        · have b1 : (k : Int) < nw := by omega
          obtain ⟨v, hv⟩ : ∃ v, v = IntKind.u64.wrap (a5 + (k : Int)) := ⟨_, rfl⟩
          have HE2 : Hid (Y.take (k + 1) = Y.take k ++ [v]) := by rw [hv]; exact HYe.out k hlt
          have HKL : Hid ((Y.take k).length = k) := by show (Y.take k).length = k; rw [List.length_take, HYl.out]; omega
          have HV : Hid (v = IntKind.u64.wrap (a5 + (k : Int))) := hv
          clear hv
          go_wp2_with fail
          rw [← HV.out]
          refine (ratio_any v _).mono ?_
          rintro e w' ⟨rfl, hg⟩
          have PG' : Hid (Part w' g (Y.take k) nw) := PG.out.grow hg
          have HMr' : Hid (w'.heap[m]? = _) := gblock hg HMr.out
          have HBr' : Hid (w'.heap[b]? = _) := gblock hg HBr.out
          have HLr' : Hid (Below w.heap.size w w') := gbel HLr.out hg
          have T : ∀ j, j < 6 → (∃ v, w'.cell? ⟨g, k * 6 + j, none⟩ = some v) ∧ w'.frozen? ⟨g, k * 6 + j, none⟩ = false := by
            intro j hj
            have := PG'.out.there (by rw [HKL.out]; exact hlt) j hj
            rw [HKL.out] at this
            exact this
          obtain ⟨⟨v0, t0⟩, y0⟩ := T 0 (by decide)
          obtain ⟨⟨v1, t1⟩, y1⟩ := T 1 (by decide)
          obtain ⟨⟨v2, t2⟩, y2⟩ := T 2 (by decide)
          obtain ⟨⟨v3, t3⟩, y3⟩ := T 3 (by decide)
          obtain ⟨⟨v4, t4⟩, y4⟩ := T 4 (by decide)
          obtain ⟨⟨v5, t5⟩, y5⟩ := T 5 (by decide)
          rw [Nat.add_zero] at t0 y0
          clear T hg PG HMr HBr HLr
          go_wp2
          go_roundw
          case rel =>
            refine ⟨k + 1, by omega, by go_num, ?_, ?_, ?_, ?_⟩
            · have := PG'.out.write (by rw [HKL.out]; exact hlt) v
              rw [HKL.out, ← HE2.out] at this
              exact this
            · exact other6 HMr'.out (by omega)
            · exact other6 HBr'.out (by omega)
            · exact below6 HLr'.out (by omega)
          case measure => simp [intOf]; omega
        · have hk3 : nw = k := by omega
          subst hk3
          have HGS : Hid (wr.heap[g]? = some (.cells (flatR Y).toArray 30 (0, 0))) := by
            have := PG.out
            rw [List.take_of_length_le (by rw [HYl.out]; exact Nat.le_refl _)] at this
            exact this.whole (by rw [HYl.out]; exact Nat.le_refl _)
          have hgs : g < wr.heap.size := lt_of_block HGS.out
          clear PG
          go_wp2_with fail
          obtain ⟨wS, hwS⟩ : ∃ wS, wS = ((wr.alloc (.cells #[.int .i32 0, .int .u32 0, .slice (some ⟨m, 0, none⟩) len0 len0, .int .i64 l, .int .i64 a2, .slice (some ⟨b, 0, none⟩) len3 len3, .bool false] 41)).alloc (.cells #[.pointer none, .int .u64 0, .int .u64 0, .int .u64 0, .int .u64 0, .int .u64 0, .int .u64 0, .int .u64 0, .int .u64 0, .int .u64 0, .int .u64 0, .int .u64 0, .int .u64 0, .int .u64 0, .int .u64 0, .int .u64 0, .bool false, .bool false, .pointer none, .int .i64 0, .pointer none, .int .i64 0, .pointer none, .int .i64 (-7), .slice none 0 0, .slice (some ⟨g, 0, none⟩) nw nw] 51)) := ⟨_, rfl⟩
          rw [← hwS]
          obtain ⟨c, hc⟩ : ∃ c, c = wr.heap.size := ⟨_, rfl⟩
          rw [← hc]
          obtain ⟨f, hf⟩ : ∃ f, f = l - 32 := ⟨_, rfl⟩
          have HBF : Hid (Bef w wS c (c + 1) m b g len0 l a2 cs X Y) := by
            have hgr : wr.grownBy wS none := by rw [hwS]; exact ⟨rfl, rfl, rfl, by simp; omega, fun k hk _ => by rw [Below.heap_alloc _ _ _ (by simp; omega), Below.heap_alloc _ _ _ hk]⟩
            refine ⟨?_, ⟨-7, ?_⟩, ?_, ?_, gblock hgr HMr.out, gblock hgr HBr.out, gblock hgr HGS.out, gbel HLr.out hgr, hwm, hmb, hbg, by omega, by omega⟩
            · rw [hwS, hc, HXl.out, Below.heap_alloc _ _ _ (by simp)]
              exact heap_alloc_new _ _
            · rw [hwS, hc]; simp
            · rw [hwS, hc, HYl.out]; simp
            · rw [hwS, hc]; simp
          have hcg : g < c := by omega
          clear hwS hc hgs HGS HMr HBr HLr
          refine (take_law HBF.out hle hsm hf).mono ?_
          rintro e w' ⟨rfl, haft⟩
          have HA : Hid (Aft w w' c (c + 1) m b g f a2 cs X Y) := haft
          have h3 := haft.h3
          have h4 := haft.h4
          have h23 := haft.h23
          have hcase : l < 32 ∧ f = 0 ∨ 32 ≤ l ∧ l = f + 32 := by omega
          have HCase : Hid (l < 32 ∧ f = 0 ∨ 32 ≤ l ∧ l = f + 32) := hcase
          have HFl : Hid (f = l - 32) := hf
          clear haft HBF hf hcase
          go_upto_if 97 with fail
          go_cut [23] (fun s23 wx => s23 = .int .i64 f ∧ wx = w')
          case first =>
            rcases HCase.out with ⟨hlt, hf0⟩ | ⟨hlt, hf0⟩
            · have hx : (l : Int) - 32 < 0 := by omega
              have HF0 : Hid (f = 0) := hf0
              clear hf0
              go_wp2_with fail
              go_meet
              exact ⟨by rw [HF0.out]; rfl, rfl⟩
            · have hx : ¬ (l : Int) - 32 < 0 := by omega
              have HF0 : Hid (l = f + 32) := hf0
              clear hf0
              go_wp2_with fail
              go_meet
              refine ⟨?_, rfl⟩
              have e : (l : Int) - 32 = (f : Int) := by have := HF0.out; omega
              rw [e]
          case rest =>
            obtain ⟨rfl, rfl⟩ := hcut
            obtain ⟨r, hr⟩ : ∃ r, l = f + r := ⟨l - f, by have := HFl.out; omega⟩
            have hrf : l - f = r := by omega
            have hr' : (l : Int) = (f : Int) + r := by omega
            rw [hrf]
            subst hr
            have hfr : (f : Int) + r ≤ len0 := by omega
            clear hrf hr' HCase HFl hl
            have HMC : Hid (∀ i, i < len0 → ∀ w2 : World, w2.heap[m]? = some (.cells cs.toArray 3 (0, 0)) → w2.cell? ⟨m, i, none⟩ = some (.int .i64 (z0.getD i 0))) := by
              intro i hi' w2 hw2
              have hl := HR.out.take_length
              have h2 : i < z0.length := by rw [List.length_take] at hl; omega
              rw [cellOf hw2, HCS.out]
              simp [hi', List.getElem?_eq_getElem h2, List.getD]
            go_wp2_with fail
            obtain ⟨wo1, rfl⟩ : ∃ wo1 : World, wo1 = wr := ⟨_, rfl⟩
            go_loopw [120] (fun i wr => ∃ kk : Nat, kk ≤ r ∧ i = .int .i64 kk ∧ Hid (Aft w wr c (c + 1) m b g f a2 cs X Y)) (fun i _ => r - (intOf i).toNat)
            case atStart => exact ⟨0, Nat.zero_le _, rfl, HA⟩
            case round =>
              obtain ⟨kk, hkk, rfl, HQ⟩ := hrel
              clear HA h3 h4 h23
              by_cases hlt : kk < r
              · obtain ⟨x, hx, hcx⟩ := HR.out.cells HQ.out.bel (by omega)
                have cB := hcx (f + kk) (by omega)
                subst hx
                clear hcx
                have cA : wr.cell? ⟨m, f + kk, none⟩ = some (.int .i64 (z0.getD (f + kk) 0)) := HMC.out _ (by omega) _ HQ.out.M
                have b1 : (kk : Int) < r := by omega
                have b2 : (f : Int) + (kk : Int) < len0 := by omega
                go_wp2_with fail
                go_quiet (fail)
                go_wp2
                go_roundw
                case rel => exact ⟨kk + 1, by omega, by go_num, HQ.out.grow (gdrewN _ _)⟩
                case measure => simp [intOf]; omega
              · have h23 := HQ.out.h23
                have hkr : ¬ (kk : Int) < r := by omega
                go_wp2_with fail
                clear h23 hkr hlt
                obtain ⟨wo3, rfl⟩ : ∃ wo3 : World, wo3 = wr := ⟨_, rfl⟩
                go_loopw [143] (fun i wr => ∃ j : Nat, j ≤ nw ∧ i = .int .i64 j ∧ Hid (Aft w wr c (c + 1) m b g f a2 cs X Y)) (fun i _ => nw - (intOf i).toNat)
                case atStart => exact ⟨0, Nat.zero_le _, rfl, HQ⟩
                case round =>
                  obtain ⟨j, hj, rfl, HT⟩ := hrel
                  clear HQ
                  by_cases hlt : j < nw
                  · have b1 : (j : Int) < nw := by omega
                    obtain ⟨v, hv⟩ : ∃ v, v = IntKind.u64.wrap (a5 + (j : Int)) := ⟨_, rfl⟩
                    have HV : Hid (v = IntKind.u64.wrap (a5 + (j : Int))) := hv
                    clear hv
                    go_wp2_with fail
                    rw [← HV.out]
                    refine (ratio_any v _).mono ?_
                    rintro e w' ⟨rfl, hg⟩
                    have HT' : Hid (Aft w w' c (c + 1) m b g f a2 cs X Y) := HT.out.grow hg
                    obtain ⟨y, hy⟩ : ∃ y, y = (newYs a2 X Y).getD j 0 := ⟨_, rfl⟩
                    have hjl : j < (newYs a2 X Y).length := by rw [newYs_length, HYl.out]; exact hlt
                    have HYv : Hid (y = if 0 ≤ a2 ∧ j < len3 then X.getD j 0 else v) := by
                      show y = _
                      rw [hy, newYs_get _ _ _ _ (by rw [HYl.out]; exact hlt), HXl.out, HYg.out j hlt, ← HV.out]
                    have q0 : w'.cell? ⟨g, j * 6, none⟩ = some (.int .u64 y) := row_cell HT'.out.G j 0 hjl (by decide) _ (by rw [← hy]; rfl)
                    have q1 : w'.cell? ⟨g, j * 6 + 1, none⟩ = some (.int .u64 0) := row_cell HT'.out.G j 1 hjl (by decide) _ rfl
                    have q2 : w'.cell? ⟨g, j * 6 + 2, none⟩ = some (.int .u64 0) := row_cell HT'.out.G j 2 hjl (by decide) _ rfl
                    have q3 : w'.cell? ⟨g, j * 6 + 3, none⟩ = some (.int .u64 1) := row_cell HT'.out.G j 3 hjl (by decide) _ rfl
                    have q4 : w'.cell? ⟨g, j * 6 + 4, none⟩ = some (.int .u64 0) := row_cell HT'.out.G j 4 hjl (by decide) _ rfl
                    have q5 : w'.cell? ⟨g, j * 6 + 5, none⟩ = some (.int .u64 0) := row_cell HT'.out.G j 5 hjl (by decide) _ rfl
                    have hgb : g < w'.heap.size := lt_of_block HT'.out.G
                    clear hg HT hy hjl
                    have E28 := eq28
                    by_cases hboth : 0 ≤ a2 ∧ j < len3
                    · obtain ⟨hb2, hj3⟩ := hboth
                      have hj3' : (j : Int) < len3 := by omega
                      obtain ⟨x, hx, hcx⟩ := HX.out.cells HT'.out.bel (by omega)
                      have cX := hcx j hj3
                      have hyx : y = z3.getD j 0 := by
                        rw [HYv.out, if_pos ⟨hb2, hj3⟩, HXX.out]
                        simp only [List.getD]
                        rw [List.getElem?_take_of_lt hj3]
                      rw [← hyx] at cX
                      subst hx
                      have hxb := World.block_lt_of_cell? _ _ cX
                      clear hcx hyx HYv
                      go_wp2_with fail
                      refine (ratio_any y _).mono ?_
                      rintro e w2 ⟨rfl, hg2⟩
                      have gg : w'.grownBy w2 none := gtrans (World.grownBy_alloc _ _ _) hg2
                      have HT2 : Hid (Aft w w2 c (c + 1) m b g f a2 cs X Y) := HT'.out.grow gg
                      have K : Hid (w2.heap[w'.heap.size]? = some (.cells #[.int .u64 v, .int .u64 0, .int .u64 0, .int .u64 1, .int .u64 0, .int .u64 0] 30 (0, 0))) := gblock hg2 (heap_alloc_new _ _)
                      have k0 : w2.cell? ⟨w'.heap.size, 0, none⟩ = some (.int .u64 v) := cellOf K.out
                      have k1 : w2.cell? ⟨w'.heap.size, 1, none⟩ = some (.int .u64 0) := cellOf K.out
                      have k2 : w2.cell? ⟨w'.heap.size, 2, none⟩ = some (.int .u64 0) := cellOf K.out
                      have k3 : w2.cell? ⟨w'.heap.size, 3, none⟩ = some (.int .u64 1) := cellOf K.out
                      have k4 : w2.cell? ⟨w'.heap.size, 4, none⟩ = some (.int .u64 0) := cellOf K.out
                      have k5 : w2.cell? ⟨w'.heap.size, 5, none⟩ = some (.int .u64 0) := cellOf K.out
                      have m0 : w2.frozen? ⟨w'.heap.size, 0, none⟩ = false := frozenOf K.out
                      have m1 : w2.frozen? ⟨w'.heap.size, 1, none⟩ = false := frozenOf K.out
                      have m2 : w2.frozen? ⟨w'.heap.size, 2, none⟩ = false := frozenOf K.out
                      have m3 : w2.frozen? ⟨w'.heap.size, 3, none⟩ = false := frozenOf K.out
                      have m4 : w2.frozen? ⟨w'.heap.size, 4, none⟩ = false := frozenOf K.out
                      have m5 : w2.frozen? ⟨w'.heap.size, 5, none⟩ = false := frozenOf K.out
                      have r0 := gcell gg q0
                      have r1 := gcell gg q1
                      have r2 := gcell gg q2
                      have r3 := gcell gg q3
                      have r4 := gcell gg q4
                      have r5 := gcell gg q5
                      have hgn : g ≠ w'.heap.size := by omega
                      have hgn' : w'.heap.size ≠ g := by omega
                      have hcN : c < w'.heap.size := World.block_lt_of_cell? _ _ HT'.out.h3
                      have hkN : c + 1 < w'.heap.size := World.block_lt_of_cell? _ _ HT'.out.h23
                      have hsz := HT'.out.bel.size
                      have GG : Hid (w'.grownBy w2 none) := gg
                      clear gg hg2 q0 q1 q2 q3 q4 q5 cX
                      go_wp2_with fail
                      go_quiet (fail)
                      go_wp2
                      go_roundw
                      case rel =>
                        refine ⟨j + 1, by omega, by go_num, ?_⟩
                        refine Aft.grow ?_ (gdrewN _ _)
                        refine HT2.out.blocks (N := w'.heap.size) (fun i hi' => blocks6 (by omega)) hcN hkN (by omega) (by omega) hgb (below6 HT2.out.bel (by omega))
                      case measure => simp [intOf]; omega
                    · have hyv : y = v := by rw [HYv.out, if_neg hboth]
                      subst hyv
                      rcases (show ¬ 0 ≤ a2 ∨ (0 ≤ a2 ∧ ¬ (j : Int) < len3) by omega) with hn | ⟨hn, hn'⟩
                      · go_wp2_with fail
                        go_quiet (fail)
                        go_wp2
                        go_roundw
                        case rel => exact ⟨j + 1, by omega, by go_num, HT'.out.grow (gtrans (World.grownBy_alloc _ _ _) (gdrewN _ _))⟩
                        case measure => simp [intOf]; omega
                      · go_wp2_with fail
                        go_quiet (fail)
                        go_wp2
                        go_roundw
                        case rel => exact ⟨j + 1, by omega, by go_num, HT'.out.grow (gtrans (World.grownBy_alloc _ _ _) (gdrewN _ _))⟩
                        case measure => simp [intOf]; omega
                  · have hjn : ¬ (j : Int) < nw := by omega
                    go_wp2_with fail
                    clear hjn hlt
                    obtain ⟨wo4, rfl⟩ : ∃ wo4 : World, wo4 = wr := ⟨_, rfl⟩
                    go_loopw [173] (fun i wr => ∃ j : Nat, j ≤ len3 ∧ i = .int .i64 j ∧ Hid (Aft w wr c (c + 1) m b g f a2 cs X Y)) (fun i _ => len3 - (intOf i).toNat)
                    case atStart => exact ⟨0, Nat.zero_le _, rfl, HT⟩
                    case round =>
                      obtain ⟨j2, hj2, rfl, HU⟩ := hrel
                      clear HT
                      by_cases hlt : j2 < len3
                      · have b1 : (j2 : Int) < len3 := by omega
                        obtain ⟨x, hx, hcx⟩ := HX.out.cells HU.out.bel (by omega)
                        have cX := hcx j2 hlt
                        obtain ⟨y, hy⟩ : ∃ y, y = z3.getD j2 0 := ⟨_, rfl⟩
                        have hyX : X.getD j2 0 = y := by
                          rw [hy, HXX.out]
                          simp only [List.getD]
                          rw [List.getElem?_take_of_lt hlt]
                        rw [← hy] at cX
                        subst hx
                        have hjl : j2 < X.length := by rw [HXl.out]; exact hlt
                        have p0 : wr.cell? ⟨b, j2 * 6, none⟩ = some (.int .u64 y) := row_cell HU.out.B j2 0 hjl (by decide) _ (by rw [hyX]; rfl)
                        have p1 : wr.cell? ⟨b, j2 * 6 + 1, none⟩ = some (.int .u64 0) := row_cell HU.out.B j2 1 hjl (by decide) _ rfl
                        have p2 : wr.cell? ⟨b, j2 * 6 + 2, none⟩ = some (.int .u64 0) := row_cell HU.out.B j2 2 hjl (by decide) _ rfl
                        have p3 : wr.cell? ⟨b, j2 * 6 + 3, none⟩ = some (.int .u64 1) := row_cell HU.out.B j2 3 hjl (by decide) _ rfl
                        have p4 : wr.cell? ⟨b, j2 * 6 + 4, none⟩ = some (.int .u64 0) := row_cell HU.out.B j2 4 hjl (by decide) _ rfl
                        have p5 : wr.cell? ⟨b, j2 * 6 + 5, none⟩ = some (.int .u64 0) := row_cell HU.out.B j2 5 hjl (by decide) _ rfl
                        have E28 := eq28
                        clear hcx hy hyX hjl
                        go_wp2_with fail
                        go_region_held3 (fun w' => w'.cell? ⟨b, j2 * 6, none⟩ = some (.int .u64 y) ∧ w'.cell? ⟨b, j2 * 6 + 1, none⟩ = some (.int .u64 0) ∧ w'.cell? ⟨b, j2 * 6 + 2, none⟩ = some (.int .u64 0) ∧ w'.cell? ⟨b, j2 * 6 + 3, none⟩ = some (.int .u64 1) ∧ w'.cell? ⟨b, j2 * 6 + 4, none⟩ = some (.int .u64 0) ∧ w'.cell? ⟨b, j2 * 6 + 5, none⟩ = some (.int .u64 0) ∧ w'.cell? (x.add j2) = some (.int .u64 y))
                          (first | with_reducible assumption | go_keep)
                          (first
                            | (go_at_call 5; refine (ratio_any y _).mono ?_; rintro e w2 ⟨rfl, hg2⟩
                               have gg : wr.grownBy w2 none := gtrans (gdrewN wr 1) hg2
                               have HU2 : Hid (Aft w w2 c (c + 1) m b g f a2 cs X Y) := HU.out.grow gg
                               have S_2 : w2.cell? ⟨b, j2 * 6, none⟩ = some (.int .u64 y) ∧ w2.cell? ⟨b, j2 * 6 + 1, none⟩ = some (.int .u64 0) ∧ w2.cell? ⟨b, j2 * 6 + 2, none⟩ = some (.int .u64 0) ∧ w2.cell? ⟨b, j2 * 6 + 3, none⟩ = some (.int .u64 1) ∧ w2.cell? ⟨b, j2 * 6 + 4, none⟩ = some (.int .u64 0) ∧ w2.cell? ⟨b, j2 * 6 + 5, none⟩ = some (.int .u64 0) ∧ w2.cell? (x.add j2) = some (.int .u64 y) := ⟨gcell gg p0, gcell gg p1, gcell gg p2, gcell gg p3, gcell gg p4, gcell gg p5, gcell gg cX⟩
                               clear gg hg2))
                        go_wp2
                        go_roundw
                        case rel => exact ⟨j2 + 1, by omega, by go_num, HU2⟩
                        case measure => simp [intOf]; omega
                      · have hjn : ¬ (j2 : Int) < len3 := by omega
                        go_wp2
                        go_ret
                        exact ⟨rfl, HU.out.bel⟩
end Go.Proofs.Ybulkapua
