/-
  open, by what KindOf gave.
-/
import Derived.Test.YbulkapsyFmtKind
namespace Go.Proofs.YbulkapsyFmt
open Go.RowKit
set_option linter.unusedVariables false

/-- The block that 'open' lays for its result, and DecodeAnswer for its decoder. -/
def decObj : Obj := .cells #[.slice none 0 0, .nilIface] 35

/-- KindOf failed. -/
theorem open_err (msg : Value) (k : Int) (R : Value → Prop) (w : World)
    (h8 : Hid (Calls Ybaf.prog 8 #[msg] (w.alloc (.cells #[.slice none 0 0, .nilIface] 35)) fun e w' => ∃ T v, e = .returned (.tuple #[.int .u8 0, .iface T v]) ∧ R (.iface T v) ∧ Below (w.heap.size + 1) (w.alloc (.cells #[.slice none 0 0, .nilIface] 35)) w')) :
    Calls Ybaf.prog 9 #[msg, .int .u8 k] w fun e w' => ∃ T v, e = .returned (.tuple #[.agg #[.slice none 0 0, .nilIface], .iface T v]) ∧ R (.iface T v) ∧ Below w.heap.size w w' := by
  go_enter Ybaf.func9, Ybaf.ntmps9
  go_wp2_with fail
  refine h8.out.mono ?_
  rintro e w1 ⟨T, v, rfl, hR, hb⟩
  have HR : Hid (R (.iface T v)) := hR
  have c0 : w1.cell? ⟨w.heap.size, 0, none⟩ = some (.slice none 0 0) := by rw [hb.cell (by simp)]; simp
  have c1 : w1.cell? ⟨w.heap.size, 1, none⟩ = some .nilIface := by rw [hb.cell (by simp)]; simp
  have f0 : w1.frozen? ⟨w.heap.size, 0, none⟩ = false := by rw [hb.frozen (by simp)]; go_simp
  have f1 : w1.frozen? ⟨w.heap.size, 1, none⟩ = false := by rw [hb.frozen (by simp)]; go_simp
  have HB : Hid (Below w.heap.size w w1) := ((Below.refl _ w).alloc (Nat.le_refl _) _).trans (hb.mono (by simp))
  clear hb hR h8
  go_wp2
  exact bodyPost_ret (v := .tuple #[.agg #[.slice none 0 0, .nilIface], .iface T v]) (by simp [results, Ybaf.results9, go_sem, c0, c1]) rfl ⟨T, v, rfl, HR.out, (HB.out.setCell (by simp) _).setCell (by simp) _⟩

/-- KindOf gave another kind. -/
theorem open_kind (msg : Value) (k' k : Int) (w : World) (hk : (k' != k) = true)
    (h8 : Hid (Calls Ybaf.prog 8 #[msg] (w.alloc (.cells #[.slice none 0 0, .nilIface] 35)) fun e w' => e = .returned (.tuple #[.int .u8 k', .nilIface]) ∧ w' = w.alloc (.cells #[.slice none 0 0, .nilIface] 35))) :
    Calls Ybaf.prog 9 #[msg, .int .u8 k] w fun e w' => ∃ T v, e = .returned (.tuple #[.agg #[.slice none 0 0, .nilIface], .iface T v]) ∧ Below w.heap.size w w' := by
  go_enter Ybaf.func9, Ybaf.ntmps9
  go_wp2_with fail
  refine h8.out.mono ?_
  rintro e w1 ⟨rfl, rfl⟩
  go_wp2_with fail
  refine (errorfK k' k (w.heap.size + 1) _ (by go_simp) (by go_simp)).mono ?_
  rintro e w1 ⟨⟨a, rfl⟩, hb⟩
  have c0 : w1.cell? ⟨w.heap.size, 0, none⟩ = some (.slice none 0 0) := by rw [hb.cell (by simp; omega), World.cell?_alloc_lt _ _ _ (by simp)]; simp
  have c1 : w1.cell? ⟨w.heap.size, 1, none⟩ = some .nilIface := by rw [hb.cell (by simp; omega), World.cell?_alloc_lt _ _ _ (by simp)]; simp
  have f0 : w1.frozen? ⟨w.heap.size, 0, none⟩ = false := by rw [hb.frozen (by simp; omega)]; go_simp
  have f1 : w1.frozen? ⟨w.heap.size, 1, none⟩ = false := by rw [hb.frozen (by simp; omega)]; go_simp
  have HB : Hid (Below w.heap.size w w1) := (((Below.refl _ w).alloc (Nat.le_refl _) _).alloc (by simp) _).trans (hb.mono (by simp; omega))
  clear hb h8
  go_wp2
  exact bodyPost_ret (v := .tuple #[.agg #[.slice none 0 0, .nilIface], .iface 61 (.pointer (some a))]) (by simp [results, Ybaf.results9, go_sem, c0, c1]) rfl ⟨_, _, rfl, (HB.out.setCell (by simp) _).setCell (by simp) _⟩

/-- KindOf gave the kind: the decoder stands behind the header. -/
theorem open_ok (b n cap : Nat) (k : Int) (w : World) (hn : 6 ≤ n) (hc : n ≤ cap) (hm : cap ≤ 2000)
    (h8 : Hid (Calls Ybaf.prog 8 #[.slice (some ⟨b, 0, none⟩) n cap] (w.alloc (.cells #[.slice none 0 0, .nilIface] 35)) fun e w' => e = .returned (.tuple #[.int .u8 k, .nilIface]) ∧ w' = w.alloc (.cells #[.slice none 0 0, .nilIface] 35))) :
    Calls Ybaf.prog 9 #[.slice (some ⟨b, 0, none⟩) n cap, .int .u8 k] w fun e w' => (∃ o, (¬ cap = 6 → o = 6) ∧ e = .returned (.tuple #[.agg #[.slice (some ⟨b, o, none⟩) (n - 6) (cap - 6), .nilIface], .nilIface])) ∧ Below w.heap.size w w' := by
  go_enter Ybaf.func9, Ybaf.ntmps9
  go_wp2_with fail
  refine h8.out.mono ?_
  rintro e w1 ⟨rfl, rfl⟩
  clear h8
  go_wp2
  · refine bodyPost_ret (v := .tuple #[.agg #[.slice (some ⟨b, 0, none⟩) (n - 6) 0, .nilIface], .nilIface]) (by simp [results, Ybaf.results9, go_sem]) rfl ?_
    exact ⟨⟨0, rfl⟩, (Below.refl _ w).alloc (Nat.le_refl _) _⟩
  · refine bodyPost_ret (v := .tuple #[.agg #[.slice (some ⟨b, 6, none⟩) (n - 6) (cap - 6), .nilIface], .nilIface]) (by simp [results, Ybaf.results9, go_sem]) rfl ?_
    exact ⟨rfl, (Below.refl _ w).alloc (Nat.le_refl _) _⟩
end Go.Proofs.YbulkapsyFmt
