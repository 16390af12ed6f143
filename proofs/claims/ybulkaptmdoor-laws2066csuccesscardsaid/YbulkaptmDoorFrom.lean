/-
  (f14) AddrFrom4, its number in range; Applications in a row.
-/
import Derived.Test.YbulkaptmDoorCea
import Derived.OpenShut
import Derived.Deep.MidRow
namespace Go.Proofs.YbulkaptmDoor
open Go.RowKit
set_option linter.unusedVariables false
set_option maxRecDepth 100000

theorem from4_rng (a b c d : Int) (ha : 0 ≤ a ∧ a ≤ 255) (hb : 0 ≤ b ∧ b ≤ 255) (hc : 0 ≤ c ∧ c ≤ 255) (hd : 0 ≤ d ∧ d ≤ 255) (z : Addr) (w : World) (hz : Zs w z) :
    Calls Ybad.prog 14 #[.agg #[.int .u8 a, .int .u8 b, .int .u8 c, .int .u8 d]] w fun e w' => (∃ lo, e = .returned (.agg #[.int .u64 0, .int .u64 lo, .pointer (some z)]) ∧ (Lit.int .u64 lo).wf = true) ∧ w.grownBy w' none := by
  obtain ⟨h4, h0⟩ := hz.lt
  have hz4 := hz.z4
  obtain ⟨ha0, ha1⟩ := ha
  obtain ⟨hb0, hb1⟩ := hb
  obtain ⟨hc0, hc1⟩ := hc
  obtain ⟨hd0, hd1⟩ := hd
  clear hz
  go_enter Ybad.func14, Ybad.ntmps14
  go_wp2
  refine bodyPost_ret (by simp [results, Ybad.results14, go_sem]; rfl) rfl ⟨⟨_, rfl, ?_⟩, ?_⟩
  · exact wf_bits _ _ _ _
  exact gtrans (World.grownBy_alloc _ _ _) (World.grownBy_alloc _ _ _)

/-- The cells of the first k Applications. -/
def appCells (ids vends : List Int) (k : Nat) : List Value := (List.range k).flatMap fun j => [.int .u32 (ids.getD j 0), .int .u32 (vends.getD j 0)]
theorem appCells_succ (ids vends : List Int) (k : Nat) : appCells ids vends (k + 1) = appCells ids vends k ++ [.int .u32 (ids.getD k 0), .int .u32 (vends.getD k 0)] := by
  simp [appCells, List.range_succ, List.flatMap_append]
theorem appCells_one (ids vends : List Int) (k : Nat) : ∀ u ∈ [Value.int .u32 (ids.getD k 0), Value.int .u32 (vends.getD k 0)], u.oneCell' = true := by
  intro u hu
  simp only [List.mem_cons, List.not_mem_nil, or_false] at hu
  rcases hu with rfl | rfl <;> rfl
theorem info55 : (Ybad.prog.info? 55).map (fun i => (i.zero, i.size, i.bytes)) = some (some (.agg #[.int .u32 0, .int .u32 0]), 2, 8) := by kernel_rfl
theorem own_neG {w : World} {B n k e s : Nat} {sv : Value} {xs : List Value} {c : Array Value} {t : TypeId} {f : Nat × Nat} (h : w.ownsRow B e s sv n xs) (hk : w.heap[k]? = some (.cells c t f)) (ht : t ≠ e) : some k ≠ sv.ownBlock := by
  intro e'
  rcases h.2 with ⟨rfl, _⟩ | ⟨g, cap, cur, rfl, _, hg, _⟩
  · cases e'
  · simp only [Value.ownBlock, Option.some.injEq] at e'
    subst e'
    rw [hg] at hk
    cases hk
    exact ht rfl
theorem size28 : (Ybad.prog.info? 28).map (·.size) = some 18 := by kernel_rfl
theorem range_block {w : World} {b : Nat} {cs : List Value} {t : TypeId} (h : w.heap[b]? = some (.cells cs.toArray t (0, 0))) : w.rangeAt b 0 cs := by
  intro j v hv
  rw [Nat.zero_add, cellOf h]
  simpa using hv
end Go.Proofs.YbulkaptmDoor
