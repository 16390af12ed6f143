/-
  lookAt where the choice has a best; take by what lookAt leaves.
-/
import Derived.Test.YbulkapuaRat
import Derived.Deep.AppendLies
namespace Go.Proofs.Ybulkapua
open Go.RowKit
set_option linter.unusedVariables false
set_option linter.unusedSimpArgs false
set_option maxRecDepth 100000

theorem size30 : (Yba.prog.info? 30).map (·.size) = some 6 := by kernel_rfl

theorem flatR_take_prefix (xs : List Int) (n : Nat) (j : Nat) (v : Value) (h : (flatR (xs.take n))[j]? = some v) : (flatR xs)[j]? = some v := by
  have e : flatR xs = flatR (xs.take n) ++ flatR (xs.drop n) := by rw [← flatR_append, List.take_append_drop]
  have hj : j < (flatR (xs.take n)).length := by
    rcases Nat.lt_or_ge j (flatR (xs.take n)).length with h' | h'
    · exact h'
    · rw [List.getElem?_eq_none h'] at h; cases h
  rw [e, List.getElem?_append_left hj]
  exact h
theorem flatR_drop (ys : List Int) (n : Nat) : (flatR ys).drop (n * 6) = flatR (ys.drop n) := by
  induction n generalizing ys with
  | zero => simp
  | succ n ih =>
    cases ys with
    | nil => simp [flatR]
    | cons a r =>
      have : (n + 1) * 6 = (rat a).length + n * 6 := by simp [rat]; omega
      rw [List.drop_succ_cons, ← ih r, this]
      simp only [flatR, List.flatMap_cons]
      rw [List.drop_append]
      simp

set_option maxHeartbeats 800000 in
theorem lookAt_pos (c k b g : Nat) (best v : Int) (xs ys : List Int) (w : World) (hb : 0 ≤ best) (hck : c ≠ k) (hgk : g ≠ k) (hbk : b ≠ k) (h4 : w.cell? ⟨c, 4, none⟩ = some (.int .i64 best)) (h5 : w.cell? ⟨c, 5, none⟩ = some (.slice (some ⟨b, 0, none⟩) xs.length xs.length))
    (h23 : w.cell? ⟨k, 23, none⟩ = some (.int .i64 v)) (h25 : w.cell? ⟨k, 25, none⟩ = some (.slice (some ⟨g, 0, none⟩) ys.length ys.length)) (z23 : w.frozen? ⟨k, 23, none⟩ = false)
    (hB : w.heap[b]? = some (.cells (flatR xs).toArray 30 (0, 0))) (hG : w.heap[g]? = some (.cells (flatR ys).toArray 30 (0, 0))) :
    Calls Yba.prog 9 #[.pointer (some ⟨c, 0, none⟩), .pointer (some ⟨k, 0, none⟩)] w fun e w' => (∃ u, e = .returned u) ∧
      w' = ((w.setCell ⟨k, 23, none⟩ (.int .i64 best)).drew).setRow g (flatR (xs.take (min xs.length ys.length) ++ ys.drop (min xs.length ys.length))).toArray := by
  have hkc : k ≠ c := hck.symm
  obtain ⟨w1, hw1⟩ : ∃ w1, w1 = (w.setCell ⟨k, 23, none⟩ (.int .i64 best)).drew := ⟨_, rfl⟩
  have HB : Hid (w1.heap[b]? = some (.cells (flatR xs).toArray 30 (0, 0))) := by
    show w1.heap[b]? = _
    rw [hw1]
    show (w.setCell ⟨k, 23, none⟩ (.int .i64 best)).heap[b]? = _
    rw [Below.heap_setCell w _ _ _ hbk, hB]
  have HG : Hid (w1.heap[g]? = some (.cells (flatR ys).toArray 30 (0, 0))) := by
    show w1.heap[g]? = _
    rw [hw1]
    show (w.setCell ⟨k, 23, none⟩ (.int .i64 best)).heap[g]? = _
    rw [Below.heap_setCell w _ _ _ hgk, hG]
  obtain ⟨mn, hmn⟩ : ∃ mn, mn = min xs.length ys.length := ⟨_, rfl⟩
  rw [← hmn]
  have HS : Hid (∀ j u, (flatR (xs.take mn))[j]? = some u → w1.cell? ((⟨b, 0, none⟩ : Addr).add j) = some u) := fun j u hj => World.news_of_block HB.out j u (by simpa using flatR_take_prefix xs mn j u hj)
  have HN : Hid ((flatR (xs.take mn)).length = Nat.min xs.length ys.length * 6) := by
    show (flatR (xs.take mn)).length = _
    rw [flatR_length, List.length_take]
    show min mn xs.length * 6 = min xs.length ys.length * 6
    omega
  have HF : Hid ((flatR (xs.take mn)).length ≤ (flatR ys).toArray.size) := by
    show (flatR (xs.take mn)).length ≤ _
    rw [HN.out]
    simp only [List.size_toArray, flatR_length]
    have : Nat.min xs.length ys.length ≤ ys.length := Nat.min_le_right _ _
    omega
  have HE : Hid (flatR (xs.take mn) ++ (flatR ys).toArray.toList.drop (flatR (xs.take mn)).length = flatR (xs.take mn ++ ys.drop mn)) := by
    show flatR (xs.take mn) ++ (flatR ys).toArray.toList.drop (flatR (xs.take mn)).length = _
    rw [HN.out, flatR_append]
    simp only []
    rw [show Nat.min xs.length ys.length = mn from hmn.symm, flatR_drop]
  have EM : Hid (mn = min xs.length ys.length) := hmn
  subst hw1
  clear hmn hB hG
  go_enter Yba.func9, Yba.ntmps9
  go_wp2_with fail
  go_region_law (first | (refine step_copy_wide rfl (.tmp 19) (.tmp 23) 26 26 rfl 30 6 Yba.underlying26 size30 g ys.length ys.length ⟨b, 0, none⟩ xs.length xs.length (by simp [Act.eval, Act.put]) (by simp [Act.eval, Act.put]) (flatR ys).toArray 30 HG.out (flatR (xs.take mn)) HN.out HS.out HF.out (flatR_one _) ?_; rw [HE.out]))
  all_goals
    go_wp2_with fail
    go_end0
    exact ⟨⟨_, rfl⟩, rfl⟩

/-- take, by what lookAt leaves (w2). -/
theorem take_gen (c k m n l f : Nat) (w w2 : World) (hl : l ≤ n) (hn : n ≤ 1024) (hf : f = l - 32) (h0 : w.cell? ⟨c, 0, none⟩ = some (.int .i32 0)) (z0 : w.frozen? ⟨c, 0, none⟩ = false)
    (hlook : Calls Yba.prog 9 #[.pointer (some ⟨c, 0, none⟩), .pointer (some ⟨k, 0, none⟩)] (w.setCell ⟨c, 0, none⟩ (.int .i32 1)) fun e w' => (∃ u, e = .returned u) ∧ w' = w2)
    (k0 : w2.cell? ⟨c, 0, none⟩ = some (.int .i32 1)) (h2 : w2.cell? ⟨c, 2, none⟩ = some (.slice (some ⟨m, 0, none⟩) n n)) (h3 : w2.cell? ⟨c, 3, none⟩ = some (.int .i64 l)) (y0 : w2.frozen? ⟨c, 0, none⟩ = false) (y3 : w2.frozen? ⟨c, 3, none⟩ = false) :
    Calls Yba.prog 6 #[.pointer (some ⟨c, 0, none⟩), .pointer (some ⟨k, 0, none⟩)] w fun e w' => e = .returned (.slice (some ⟨m, f, none⟩) (l - f) (n - f)) ∧
      ∃ q, w' = ((w2.setCell ⟨c, 3, none⟩ (.int .i64 (f : Int))).setCell ⟨c, 0, none⟩ (.int .i32 0)).drewN q := by
  have hl' : (l : Int) ≤ n := by omega
  have hn' : (n : Int) ≤ 1024 := by omega
  have hln : ¬ (n : Int) < l := by omega
  have hfl : (f : Int) ≤ l := by omega
  have hcase : l < 32 ∧ f = 0 ∨ 32 ≤ l ∧ l = f + 32 := by omega
  have HL : Hid (Calls Yba.prog 9 #[.pointer (some ⟨c, 0, none⟩), .pointer (some ⟨k, 0, none⟩)] (w.setCell ⟨c, 0, none⟩ (.int .i32 1)) fun e w' => (∃ u, e = .returned u) ∧ w' = w2) := hlook
  clear hf hlook
  rcases hcase with ⟨hlt, rfl⟩ | ⟨hlt, rfl⟩
  · have hlt' : (l : Int) < 32 := by omega
    have hx : ¬ (0 : Int) ≤ (l : Int) - 32 := by omega
    go_enter_defers Yba.func6, Yba.ntmps6
    go_wp2_with fail
    refine (MuLone.lock_free muLib ⟨c, 0, none⟩ _ h0 z0).mono ?_
    rintro e w' ⟨rfl, rfl⟩
    go_wp2_with fail
    refine HL.out.mono ?_
    rintro e w' ⟨⟨u, rfl⟩, rfl⟩
    go_wp2_with fail
    go_quiet (fail)
    go_wp2_with fail
    refine leaves_cons (f := 8) (args := #[.pointer (some ⟨c, 0, none⟩)]) (by simp) (by simp [go_sem]) ?_
    refine (MuLone.unlock_deferred muLib ⟨c, 0, none⟩ .returning _ (by simp [go_sem, k0]) (by simp [y0])).mono ?_
    rintro e u' w'' ⟨rfl, rfl, rfl⟩
    refine ⟨_, results_tmp rfl _ _ _, ?_, _, rfl⟩
    simp
  · have hx : (0 : Int) ≤ ((f + 32 : Nat) : Int) - 32 := by omega
    go_enter_defers Yba.func6, Yba.ntmps6
    go_wp2_with fail
    refine (MuLone.lock_free muLib ⟨c, 0, none⟩ _ h0 z0).mono ?_
    rintro e w' ⟨rfl, rfl⟩
    go_wp2_with fail
    refine HL.out.mono ?_
    rintro e w' ⟨⟨u, rfl⟩, rfl⟩
    go_wp2_with fail
    go_quiet (fail)
    go_wp2_with fail
    refine leaves_cons (f := 8) (args := #[.pointer (some ⟨c, 0, none⟩)]) (by simp) (by simp [go_sem]) ?_
    refine (MuLone.unlock_deferred muLib ⟨c, 0, none⟩ .returning _ (by simp [go_sem, k0]) (by simp [y0])).mono ?_
    rintro e u' w'' ⟨rfl, rfl, rfl⟩
    refine ⟨_, results_tmp rfl _ _ _, ?_, _, rfl⟩
    simp
end Go.Proofs.Ybulkapua
