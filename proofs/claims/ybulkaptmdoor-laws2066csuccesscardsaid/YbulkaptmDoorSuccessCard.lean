/-
  LawS2066CSuccess: the tied card.
-/
import Derived.Test.YbulkaptmDoorSuccessProof
namespace Go.Proofs.YbulkaptmDoor.lawS2066CSuccess
open Go

/-- ████ THE CARD ████ -/
theorem proved : Rows.LawS2066CSuccessCardSaid :=
  Claim7.holds_tied_plain_at .later [] [.called, .wider, .wider, .wider, .wider, .wider, .wider, .wider, .wider, .wider, .wider, .wider, .wider, .wider, .wider, .zero] true (true, "dfe7b19257fc2cfb3e6438a3f15cf4201cf16d817b7a96f1c5207207862dc142") true
    over (fun _ h => by cases h) (by kernel_rfl) (fun _ h => by cases h) lawS2066CSuccess_row_tie rfl ⟨rfl, rfl⟩ (by kernel_rfl) rfl
    (fun f fn hf hfn => by
      obtain rfl : f = 3 := Option.some.inj ((show Ybad.prog.funcNamed Rows.lawS2066CSuccessRow.func = some 3 by kernel_rfl).symm.trans hf) |>.symm
      obtain rfl : fn = Ybad.f3 := (Option.some.inj (Ybad.func3.symm.trans hfn)).symm
      exact ⟨by kernel_rfl, fun j t ht => by
        rw [Ybad.params3] at ht
        have hm : t ∈ [28] := by simpa using Array.mem_of_getElem? ht
        have hall : ([28].all fun u => !Ybad.prog.wantsStandIn u) = true := by kernel_rfl
        exact (show Ybad.prog.wantsStandIn t = false by simpa using List.all_eq_true.1 hall t hm)⟩)
    (by kernel_rfl)
#print axioms proved
end Go.Proofs.YbulkaptmDoor.lawS2066CSuccess
