/-
  Small laws for the walk of the Success law.
-/
import Derived.Test.YbulkaptmDoorSucR
import Derived.Test.YbulkaptmDoorBuildM
import Derived.Test.YbulkaptmDoorCeaOk
import Derived.Test.YbulkaptmDoorTwo
import Derived.Deep.DeepCutAuto
import Derived.Deep.CutBlock
namespace Go.Proofs.YbulkaptmDoor
open Go.RowKit
set_option linter.unusedVariables false
set_option linter.unusedSimpArgs false
set_option maxRecDepth 100000

theorem isRow_wf {k : IntKind} {w : World} {a : Option Addr} {len cap : Nat} {zs : List Int} (h : IsRow k w a len cap zs) (h0 : (Lit.int k 0).wf = true) : ∀ j, (Lit.int k (zs.getD j 0)).wf = true := by
  intro j
  have hz : ∀ n ∈ zs, (Lit.int k n).wf = true := by
    rcases h with ⟨_, _, _, rfl⟩ | ⟨x, _, _, _, _, _, h6⟩
    · intro n hn; cases hn
    · exact h6
  rw [List.getD_eq_getElem?_getD]
  rcases Nat.lt_or_ge j zs.length with hj | hj
  · rw [List.getElem?_eq_getElem hj, Option.getD_some]; exact hz _ (List.getElem_mem _)
  · rw [List.getElem?_eq_none hj, Option.getD_none]; exact h0
theorem flat_at {l : List Av} {i : Nat} {a : Av} (h : l[i]? = some a) : (flat l)[i * 4]? = some (.int .u32 a.code) ∧ (flat l)[i * 4 + 1]? = some (.int .u8 a.flags) ∧ (flat l)[i * 4 + 2]? = some (.int .u32 a.vendor) ∧ (flat l)[i * 4 + 3]? = some (.slice a.da a.dl a.dc) := by
  induction l generalizing i with
  | nil => simp at h
  | cons b r ih =>
    have e : flat (b :: r) = b.cells ++ flat r := by simp [flat]
    rw [e]
    cases i with
    | zero =>
      simp at h
      subst h
      exact ⟨rfl, rfl, rfl, rfl⟩
    | succ i =>
      have h' : r[i]? = some a := by simpa using h
      have hl : b.cells.length = 4 := rfl
      obtain ⟨h1, h2, h3, h4⟩ := ih h'
      refine ⟨?_, ?_, ?_, ?_⟩
      · rw [List.getElem?_append_right (by omega), hl, show (i + 1) * 4 - 4 = i * 4 by omega]; exact h1
      · rw [List.getElem?_append_right (by omega), hl, show (i + 1) * 4 + 1 - 4 = i * 4 + 1 by omega]; exact h2
      · rw [List.getElem?_append_right (by omega), hl, show (i + 1) * 4 + 2 - 4 = i * 4 + 2 by omega]; exact h3
      · rw [List.getElem?_append_right (by omega), hl, show (i + 1) * 4 + 3 - 4 = i * 4 + 3 by omega]; exact h4
end Go.Proofs.YbulkaptmDoor
