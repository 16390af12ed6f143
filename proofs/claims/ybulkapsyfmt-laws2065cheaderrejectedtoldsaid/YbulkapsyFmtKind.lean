/-
  KindOf, one contract a way.
-/
import Derived.Test.YbulkapsyFmtErrs
import Derived.Test.YbulkapsyFmtMsg
import Derived.Laws.BytesArg
import Derived.RegionTactic
namespace Go.Proofs.YbulkapsyFmt
open Go.RowKit
set_option linter.unusedVariables false

/-- The message is shorter than a header: errShort, whatever that variable holds. -/
theorem kindOf_short (ao : Option Addr) (n cap : Nat) (er : Value) (w : World) (hn : n < 6) (hg : w.cell? ⟨0, 0, none⟩ = some er) (he : er = .nilIface ∨ ∃ t v, er = .iface t v) :
    Calls Ybaf.prog 8 #[.slice ao n cap] w fun e w' => e = .returned (.tuple #[.int .u8 0, er]) ∧ Below w.heap.size w w' := by
  have hn' : (n : Int) < 6 := by omega
  rcases he with rfl | ⟨t, v, rfl⟩
  all_goals
    go_enter Ybaf.func8, Ybaf.ntmps8
    go_wp2
    go_region
    all_goals (try go_wp2)
    all_goals go_ret2
    all_goals exact ⟨rfl, (Below.refl _ w).drew⟩

theorem conv4 (b cap : Nat) (c0 c1 c2 c3 : Int) (w : World) (h0 : w.cell? ⟨b, 0, none⟩ = some (.int .u8 c0)) (h1 : w.cell? ⟨b, 1, none⟩ = some (.int .u8 c1))
    (h2 : w.cell? ⟨b, 2, none⟩ = some (.int .u8 c2)) (h3 : w.cell? ⟨b, 3, none⟩ = some (.int .u8 c3)) :
    (convert 22 9 (.slice (some ⟨b, 0, none⟩) 4 cap)).run Ybaf.prog w = .ok (.string (strOfNums [c0, c1, c2, c3])) w := by
  refine run_convert_bytes_arg w 22 5 Ybaf.underlying22 Ybaf.underlying5 b 0 4 cap [c0, c1, c2, c3] rfl (fun i hi => ?_) 9 Ybaf.underlying9
  match i, hi with
  | 0, _ => exact h0
  | 1, _ => exact h1
  | 2, _ => exact h2
  | 3, _ => exact h3

theorem magic_true : ((strOfNums [66, 76, 83, 84]).toList == [66, 76, 83, 84]) = true := by decide +kernel

theorem kindOf_magic (b n cap : Nat) (c0 c1 c2 c3 : Int) (w : World) (hn : 6 ≤ n) (hc : n ≤ cap) (hm : cap ≤ 2000) (h0 : w.cell? ⟨b, 0, none⟩ = some (.int .u8 c0)) (h1 : w.cell? ⟨b, 1, none⟩ = some (.int .u8 c1))
    (h2 : w.cell? ⟨b, 2, none⟩ = some (.int .u8 c2)) (h3 : w.cell? ⟨b, 3, none⟩ = some (.int .u8 c3)) (hne : ((strOfNums [c0, c1, c2, c3]).toList == [66, 76, 83, 84]) = false) :
    Calls Ybaf.prog 8 #[.slice (some ⟨b, 0, none⟩) n cap] w fun e w' => (∃ a, e = .returned (.tuple #[.int .u8 0, .iface 61 (.pointer (some a))])) ∧ Below w.heap.size w w' := by
  have hn' : ¬ (n : Int) < 6 := by omega
  have hcv := conv4 b cap c0 c1 c2 c3 w h0 h1 h2 h3
  clear h0 h1 h2 h3
  go_enter Ybaf.func8, Ybaf.ntmps8
  go_wp2_with (go_at_call 14; refine (new_any _ _).mono ?_; rintro e w' ⟨rfl, rfl⟩)
  go_ret2
  exact ⟨⟨_, rfl⟩, (Below.refl _ w).alloc (Nat.le_refl _) _⟩

theorem kindOf_version (b n cap : Nat) (v : Int) (w : World) (hn : 6 ≤ n) (hc : n ≤ cap) (hm : cap ≤ 2000) (h0 : w.cell? ⟨b, 0, none⟩ = some (.int .u8 66)) (h1 : w.cell? ⟨b, 1, none⟩ = some (.int .u8 76))
    (h2 : w.cell? ⟨b, 2, none⟩ = some (.int .u8 83)) (h3 : w.cell? ⟨b, 3, none⟩ = some (.int .u8 84)) (h4 : w.cell? ⟨b, 4, none⟩ = some (.int .u8 v)) (hv : (v != 1) = true) :
    Calls Ybaf.prog 8 #[.slice (some ⟨b, 0, none⟩) n cap] w fun e w' => (∃ a, e = .returned (.tuple #[.int .u8 0, .iface 61 (.pointer (some a))])) ∧ Below w.heap.size w w' := by
  have hn' : ¬ (n : Int) < 6 := by omega
  have hcv := conv4 b cap 66 76 83 84 w h0 h1 h2 h3
  have hmt := magic_true
  clear h0 h1 h2 h3
  go_enter Ybaf.func8, Ybaf.ntmps8
  go_wp2_with fail
  refine (errorfV v w.heap.size _ (by go_simp)).mono ?_
  rintro e w1 ⟨⟨a, rfl⟩, hb⟩
  have HB : Hid (Below w.heap.size w w1) := ((Below.refl _ w).alloc (Nat.le_refl _) _).trans (hb.mono (by simp))
  clear hb
  go_wp2
  go_ret2
  exact ⟨⟨_, rfl⟩, HB.out⟩

theorem kindOf_ok (b n cap : Nat) (k : Int) (w : World) (hn : 6 ≤ n) (hc : n ≤ cap) (hm : cap ≤ 2000) (h0 : w.cell? ⟨b, 0, none⟩ = some (.int .u8 66)) (h1 : w.cell? ⟨b, 1, none⟩ = some (.int .u8 76))
    (h2 : w.cell? ⟨b, 2, none⟩ = some (.int .u8 83)) (h3 : w.cell? ⟨b, 3, none⟩ = some (.int .u8 84)) (h4 : w.cell? ⟨b, 4, none⟩ = some (.int .u8 1)) (h5 : w.cell? ⟨b, 5, none⟩ = some (.int .u8 k)) :
    Calls Ybaf.prog 8 #[.slice (some ⟨b, 0, none⟩) n cap] w fun e w' => e = .returned (.tuple #[.int .u8 k, .nilIface]) ∧ w' = w := by
  have hn' : ¬ (n : Int) < 6 := by omega
  have hcv := conv4 b cap 66 76 83 84 w h0 h1 h2 h3
  have hmt := magic_true
  clear h0 h1 h2 h3
  go_enter Ybaf.func8, Ybaf.ntmps8
  go_wp2
  go_ret2
  exact ⟨rfl, rfl⟩
end Go.Proofs.YbulkapsyFmt
