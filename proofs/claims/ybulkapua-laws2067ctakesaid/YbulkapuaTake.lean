/-
  (f9) lookAt and (f6) take, where the choice has no best yet.
-/
import Derived.Test.YbulkapuaLocks
import Derived.WalkKit
import Derived.WalkSmall
import Derived.WalkSpells
import Derived.OpenShut
import Derived.Below
import Derived.Deep.QuietTactic
import Derived.BigQuiet
namespace Go.Proofs.Ybulkapua
open Go.RowKit
set_option linter.unusedVariables false
set_option linter.unusedSimpArgs false
set_option maxRecDepth 100000

theorem lookAt_neg (c k : Nat) (best v : Int) (w : World) (hb : best < 0) (hck : c ≠ k) (h4 : w.cell? ⟨c, 4, none⟩ = some (.int .i64 best)) (h23 : w.cell? ⟨k, 23, none⟩ = some (.int .i64 v)) (z23 : w.frozen? ⟨k, 23, none⟩ = false) :
    Calls Yba.prog 9 #[.pointer (some ⟨c, 0, none⟩), .pointer (some ⟨k, 0, none⟩)] w fun e w' => (∃ u, e = .returned u) ∧ w' = w.setCell ⟨k, 23, none⟩ (.int .i64 best) := by
  have hkc : k ≠ c := hck.symm
  have hb' : ¬ 0 ≤ best := by omega
  go_enter Yba.func9, Yba.ntmps9
  go_wp2
  go_end0
  exact ⟨⟨_, rfl⟩, rfl⟩

/-- What take leaves: the run's bounds are 'f' and 'l'. -/
theorem take_at (c k m n l f : Nat) (best v : Int) (w : World) (hb : best < 0) (hck : c ≠ k) (hl : l ≤ n) (hn : n ≤ 1024) (hf : f = l - 32)
    (h0 : w.cell? ⟨c, 0, none⟩ = some (.int .i32 0)) (h2 : w.cell? ⟨c, 2, none⟩ = some (.slice (some ⟨m, 0, none⟩) n n)) (h3 : w.cell? ⟨c, 3, none⟩ = some (.int .i64 l)) (h4 : w.cell? ⟨c, 4, none⟩ = some (.int .i64 best)) (h23 : w.cell? ⟨k, 23, none⟩ = some (.int .i64 v))
    (z0 : w.frozen? ⟨c, 0, none⟩ = false) (z3 : w.frozen? ⟨c, 3, none⟩ = false) (z23 : w.frozen? ⟨k, 23, none⟩ = false) :
    Calls Yba.prog 6 #[.pointer (some ⟨c, 0, none⟩), .pointer (some ⟨k, 0, none⟩)] w fun e w' => e = .returned (.slice (some ⟨m, f, none⟩) (l - f) (n - f)) ∧
      ∃ q, w' = ((((w.setCell ⟨c, 0, none⟩ (.int .i32 1)).setCell ⟨k, 23, none⟩ (.int .i64 best)).setCell ⟨c, 3, none⟩ (.int .i64 (f : Int))).setCell ⟨c, 0, none⟩ (.int .i32 0)).drewN q := by
  have hkc : k ≠ c := hck.symm
  have hl' : (l : Int) ≤ n := by omega
  have hn' : (n : Int) ≤ 1024 := by omega
  have hln : ¬ (n : Int) < l := by omega
  have hfl : (f : Int) ≤ l := by omega
  have hcase : l < 32 ∧ f = 0 ∨ 32 ≤ l ∧ l = f + 32 := by omega
  clear hf
  rcases hcase with ⟨hlt, rfl⟩ | ⟨hlt, rfl⟩
  · have hlt' : (l : Int) < 32 := by omega
    have hx : ¬ (0 : Int) ≤ (l : Int) - 32 := by omega
    go_enter_defers Yba.func6, Yba.ntmps6
    go_wp2_with fail
    refine (MuLone.lock_free muLib ⟨c, 0, none⟩ _ h0 z0).mono ?_
    rintro e w' ⟨rfl, rfl⟩
    go_wp2_with fail
    refine (lookAt_neg c k best v _ hb hck (by simp [go_sem, h4]) (by simp [go_sem, h23, hck, hkc]) (by simp [z23])).mono ?_
    rintro e w' ⟨⟨u, rfl⟩, rfl⟩
    go_wp2_with fail
    go_quiet (fail)
    go_wp2_with fail
    refine leaves_cons (f := 8) (args := #[.pointer (some ⟨c, 0, none⟩)]) (by simp) (by simp [go_sem]) ?_
    refine (MuLone.unlock_deferred muLib ⟨c, 0, none⟩ .returning _ (by simp [go_sem, h0, hck, hkc]) (by simp [z0])).mono ?_
    rintro e u' w'' ⟨rfl, rfl, rfl⟩
    refine ⟨_, results_tmp rfl _ _ _, ?_, _, rfl⟩
    simp
  · have hx : (0 : Int) ≤ ((f + 32 : Nat) : Int) - 32 := by omega
    go_enter_defers Yba.func6, Yba.ntmps6
    go_wp2_with fail
    refine (MuLone.lock_free muLib ⟨c, 0, none⟩ _ h0 z0).mono ?_
    rintro e w' ⟨rfl, rfl⟩
    go_wp2_with fail
    refine (lookAt_neg c k best v _ hb hck (by simp [go_sem, h4]) (by simp [go_sem, h23, hck, hkc]) (by simp [z23])).mono ?_
    rintro e w' ⟨⟨u, rfl⟩, rfl⟩
    go_wp2_with fail
    go_quiet (fail)
    go_wp2_with fail
    refine leaves_cons (f := 8) (args := #[.pointer (some ⟨c, 0, none⟩)]) (by simp) (by simp [go_sem]) ?_
    refine (MuLone.unlock_deferred muLib ⟨c, 0, none⟩ .returning _ (by simp [go_sem, h0, hck, hkc]) (by simp [z0])).mono ?_
    rintro e u' w'' ⟨rfl, rfl, rfl⟩
    refine ⟨_, results_tmp rfl _ _ _, ?_, _, rfl⟩
    simp
end Go.Proofs.Ybulkapua
