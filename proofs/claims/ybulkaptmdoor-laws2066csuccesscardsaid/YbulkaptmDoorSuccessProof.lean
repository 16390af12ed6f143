/-
  LawS2066CSuccess: from the walk to the tied card.
-/
import Derived.Test.YbulkaptmDoorCards
import Derived.Test.YbulkaptmDoorTie
import Derived.Lay
import Derived.Test.YbulkaptmDoorInput
import Derived.Test.YbulkaptmDoorSuccess
import Derived.SevenTiedAt
import Derived.Lib.SmallJoins
import Derived.Deep.Slices
namespace Go.Proofs.YbulkaptmDoor.lawS2066CSuccess
open Go.ChangeShapes Go.WideShapes Go.ChangeAt Go.RowKit Go.Joins
set_option linter.unusedVariables false

theorem vars_len {H : Type} {enc : TypeId × Value → H} {P : Program} {w : World} {sp : Nat → Bool} : ∀ {ns : List String} {ds : List (DataW H)} {ps : List MemPlace}, DataW.TrodVars enc P w sp ns ds ps → ds.length = ns.length
  | [], [], _, _ => rfl
  | [], _ :: _, _, h => h.elim
  | _ :: _, [], _, h => h.elim
  | _ :: _, _ :: _, _, h => by
    obtain ⟨g, t, cs, fuel, p, q, _, _, _, _, hs, _⟩ := h
    simp [vars_len hs]

set_option maxRecDepth 100000 in
theorem lifted (os : Os) (started : os.Started) (H : Type) (enc : TypeId × Value → H) :
    ReturnsInHanded {} Ybad.checked os 3 .any (fun w args => (Rows.lawS2066CSuccessSpec.pre enc Ybad.prog Ybad.f3 [] false w args ∧ laidMetH Ybad.prog Rows.lawS2066CSuccessRow.laid w) ∧ sizedMet enc Ybad.prog Ybad.f3 (OpenSpec.ofChange Rows.lawS2066CSuccessSpec) false w args)
      (Rows.lawS2066CSuccessSpec.post enc Ybad.prog Ybad.f3 false true false false) := by
  refine returnsInHanded_of_change_and (C := Ybad.checked) (X := fun w _ => laidMetH Ybad.prog Rows.lawS2066CSuccessRow.laid w) (fun _ _ _ hh h => h.of_heap hh) own started (by kernel_rfl) Ybad.func3
    (ChangeSpec.witness_shaped (enc := enc) (C := Ybad.checked) (os := os) (X := fun w _ => laidMetH Ybad.prog Rows.lawS2066CSuccessRow.laid w) false (World.laidAll Ybad.prog os Rows.lawS2066CSuccessRow.laid) #[.agg #[.int .u8 0, .int .u32 0, .int .u32 0, .int .u32 0, .int .u32 0, .bool false, .slice none 0 0, .string ⟨#[]⟩, .string ⟨#[]⟩, .string ⟨#[]⟩, .int .u32 0, .int .u8 0, .int .u8 0, .int .u8 0, .int .u8 0, .int .u16 0, .slice none 0 0, .slice none 0 0]] 8 rfl (World.shaped_of_ZipB (by kernel_rfl) (by kernel_rfl)) (by kernel_rfl) (by kernel_rfl) (by kernel_rfl)
      (by rw [MakeChecks.laidMetH_plain _ _ _ (by kernel_rfl)]; exact laidMet_laidAll _ (by kernel_rfl) (by kernel_rfl))) ?_
  intro W base args ds gs before hval0 hW _ _ hL _
  have hval : ∀ (j : Nat) t v, Ybad.f3.params[j]? = some t → args[j]? = some v → Value.okWide Ybad.prog W .any base t v := hval0
  have hW' := hW
  obtain ⟨p, q, hA0, hV, rfl, hfz, hnd⟩ := hW
  have hA : DataW.TrodAll enc Ybad.prog W 0 (fun _ => true) true Ybad.f3.params.toList args.toList ds p := hA0
  rw [Ybad.params3] at hA hval
  obtain ⟨v0, d0, rfl, rfl, h0⟩ := trodAll_one hA
  have hgl : gs.length = 14 := vars_len hV
  obtain ⟨cs, rfl, hsz⟩ := okWide_struct Ybad.underlying28 (hval 0 28 v0 rfl rfl)
  have k0 := h0
  have lt0 : ∀ x ∈ p, x.block < W.heap.size := by obtain ⟨m, hm⟩ := k0; exact DataW.trod_lt m _ _ _ hm
  obtain ⟨nm, z, hG⟩ := of_laid (show laidMetH Ybad.prog Rows.lawS2066CFailureRow.laid W from hL)
  have key : Calls Ybad.prog 3 #[.agg cs] W fun e w' => e = .returned (.bool true) ∧ Below W.heap.size W w' := by
    obtain ⟨fuel, hf⟩ := h0
    obtain ⟨fl, cmd, app, hop, ete, ws, sa, sl, sc, host, realm, prod, st, i0, i1, i2, i3, port, ia, il, ic, va, vl, vc, ids, vends, sid, hcs, rI, rV, rS, hst, hr⟩ := open_input (by simpa [Value.cells] using hf)
    obtain rfl : cs = #[.int .u8 fl, .int .u32 cmd, .int .u32 app, .int .u32 hop, .int .u32 ete, .bool ws, .slice sa sl sc, .string host, .string realm, .string prod, .int .u32 st, .int .u8 i0, .int .u8 i1, .int .u8 i2, .int .u8 i3, .int .u16 port, .slice ia il ic, .slice va vl vc] := by
      obtain ⟨l⟩ := cs
      simpa using hcs
    refine (success_any fl cmd app hop ete ws sa sl sc host realm prod st i0 i1 i2 i3 port ia il ic va vl vc ids vends sid nm z W hG rI rV rS hst.1 hst.2 hr).mono fun e W' ⟨he, hg⟩ => ⟨he, ⟨hg.os, hg.tape, hg.output, hg.size, fun k hk => hg.block k hk (by simp)⟩⟩
  clear hA0 hval0 hval
  match gs, hgl with
  | [g1, g2, g3, g4, g5, g6, g7, g8, g9, g10, g11, g12, g13, g14], _ =>
    refine key.mono fun e W' ⟨he, bel⟩ => ?_
    subst he
    refine ⟨_, rfl, _, _, _, [], p, q, hW', trodAll_mk1 (shut_bool Ybad.underlying4 _), ?_, Below.trodVars laidOut bel (by kernel_rfl) hV, bel.frame _, fun h => by cases h⟩
    exact trodAll_mk1 (Below.trod laidOut (by kernel_rfl) (of_decide_eq_true (by kernel_rfl)) k0 bel lt0)

theorem over : Rows.LawS2066CSuccessSaid :=
  OpenClaim.holds_of_wide 3 Ybad.f3 rfl rfl rfl rfl rfl rfl rfl ⟨rfl, rfl, rfl, rfl, rfl⟩ rfl rfl rfl rfl rfl (by kernel_rfl) Ybad.func3 (by kernel_rfl)
    (of_decide_eq_true (by kernel_rfl)) (by unfold Func.isWrapper; first | (rw [if_pos (by decide +kernel)]; kernel_rfl) | (rw [if_neg (by decide +kernel)]; exact ⟨rfl, rfl⟩))
    (fun os started H enc _ => lifted os started H enc)
end Go.Proofs.YbulkaptmDoor.lawS2066CSuccess
