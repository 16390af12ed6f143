/-
  (*budget).holding, in one goroutine, the channel lock free: the lock is taken, b.held is read, the deferred Unlock gives the lock back.
-/
import Derived.Test.YbulkapsyRows
import Derived.Test.YbulkapsyLocks
import Derived.WalkKit
namespace Go.Proofs.Ybulkapsy
open Go.Conc Go.RowKit

theorem cell?_setChan (w : World) (c cap : Nat) (buf : Array Value) (cl : Bool) (s r : Nat) (tm : Bool) (a : Addr) (h : a.block ≠ c) :
    (w.setChan c cap buf cl s r tm).cell? a = w.cell? a := by
  unfold World.cell?
  simp only [World.setChan]
  rw [Array.getElem?_setIfInBounds_ne (Ne.symm h)]

theorem holding_walk (b c s r : Nat) (tm : Bool) (held : Int) (w : World) (hbc : b ≠ c)
    (h1 : w.cell? ⟨b, 1, none⟩ = some (.chan (some c))) (h2 : w.cell? ⟨b, 2, none⟩ = some (.int .i64 held))
    (hc : w.heap[c]? = some (.chan 1 #[] false s r tm)) :
    Calls Yba.prog 4 #[.pointer (some ⟨b, 0, none⟩)] w fun e w' => e = .returned (.int .i64 held) ∧
      w' = (w.setChan c 1 #[.agg #[]] false (s + 1) r tm).setChan c 1 #[] false (s + 1) (r + 1) tm := by
  have hlt : c < w.heap.size := by
    rcases Nat.lt_or_ge c w.heap.size with h | h
    · exact h
    · rw [Array.getElem?_eq_none h] at hc; cases hc
  have h1' : (w.setChan c 1 #[.agg #[]] false (s + 1) r tm).cell? ⟨b, 1, none⟩ = some (.chan (some c)) := by rw [cell?_setChan _ _ _ _ _ _ _ _ _ hbc]; exact h1
  have h2' : (w.setChan c 1 #[.agg #[]] false (s + 1) r tm).cell? ⟨b, 2, none⟩ = some (.int .i64 held) := by rw [cell?_setChan _ _ _ _ _ _ _ _ _ hbc]; exact h2
  have HC : Hid (w.heap[c]? = some (.chan 1 #[] false s r tm)) := hc
  clear hc
  go_enter_defers Yba.func4, Yba.ntmps4
  go_wp2_with (go_at_call 5; refine (lock_walk c s r tm _ HC.out).mono ?_; rintro e w' ⟨rfl, rfl⟩)
  refine leaves_cons (f := 6) (args := #[.chan (some c)]) (by simp) (by simp [go_sem]) ?_
  refine (unlock_deferred c (s + 1) r tm .returning _ ?_).mono ?_
  · exact heap_setChan _ _ _ _ _ _ _ _ hlt
  rintro e u' w'' ⟨rfl, rfl, rfl⟩
  exact ⟨_, results_tmp rfl _ _ _, rfl, rfl⟩

/-- The same, by what the caller may know of the world behind it. -/
theorem holding_any (b c s r : Nat) (tm : Bool) (held : Int) (w : World) (hbc : b ≠ c)
    (h1 : w.cell? ⟨b, 1, none⟩ = some (.chan (some c))) (h2 : w.cell? ⟨b, 2, none⟩ = some (.int .i64 held))
    (hc : w.heap[c]? = some (.chan 1 #[] false s r tm)) :
    Calls Yba.prog 4 #[.pointer (some ⟨b, 0, none⟩)] w fun e w' => e = .returned (.int .i64 held) ∧
      (∀ a : Addr, a.block ≠ c → w'.cell? a = w.cell? a) ∧ w'.heap[c]? = some (.chan 1 #[] false (s + 1) (r + 1) tm) ∧ Below c w w' := by
  have hlt : c < w.heap.size := by
    rcases Nat.lt_or_ge c w.heap.size with h | h
    · exact h
    · rw [Array.getElem?_eq_none h] at hc; cases hc
  refine (holding_walk b c s r tm held w hbc h1 h2 hc).mono fun e w' ⟨he, hw⟩ => ?_
  subst he
  subst hw
  refine ⟨rfl, fun a ha => ?_, heap_setChan _ _ _ _ _ _ _ _ (by rw [size_setChan]; exact hlt), below_setChan (below_setChan (Below.refl _ _) (Nat.le_refl _) _ _ _ _ _ _) (Nat.le_refl _) _ _ _ _ _ _⟩
  rw [cell?_setChan _ _ _ _ _ _ _ _ _ ha, cell?_setChan _ _ _ _ _ _ _ _ _ ha]

end Go.Proofs.Ybulkapsy
