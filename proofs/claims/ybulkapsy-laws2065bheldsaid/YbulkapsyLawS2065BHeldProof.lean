/-
  A PROOF OF 'Rows.LawS2065BHeldSaid' ('example.com/ballast/ballast/pkg/transport.LawS2065BHeld'). The frame was written by the kit's program for this function; the walk and the two lemmas ahead of it are ours.
-/
import Derived.Test.YbulkapsyHolding
import Derived.WalkKit
import Derived.ProofKit
import Derived.OpenShut
import Derived.ShutString
import Derived.Below
import Derived.Conc.LoneSelectN
namespace Go.Proofs.Ybulkapsy.lawS2065BHeld
open Go.ChangeShapes Go.WideShapes Go.ChangeAt Go.RowKit
open Go.ChangeMaps (open_string shut_string)
open Go.Conc
set_option linter.unusedVariables false      -- a walk need not use every 'w<i>' (that an integer argument fits its kind)

theorem mk1 (w : World) : (Instr.makeChan 24 (.int .i64 1)).run Yba.prog w = .ok (.chan (some w.heap.size)) (w.alloc (.chan 1 #[] false 0 0 false)) := by
  obtain ⟨i, hi, hb⟩ : ∃ i, Yba.prog.info? 31 = some i ∧ i.bytes = 0 := by
    have h : (Yba.prog.info? 31).map (·.bytes) = some 0 := by kernel_rfl
    obtain ⟨i, hi, hb⟩ := Option.map_eq_some_iff.1 h
    exact ⟨i, hi, hb⟩
  simpa using run_makeChan (P := Yba.prog) (w := w) Yba.underlying24 hi .i64 1 (by omega) (by rw [hb]; omega)

theorem chan_laid (w : World) (o o' : Obj) : ((w.alloc o).alloc o').heap[w.heap.size]? = some o := by
  rw [Below.heap_alloc _ _ _ (by simp)]
  exact heap_alloc_new _ _

theorem own : ownKnob Yba.prog.godebug = none := by kernel_rfl

/-! ### THE WALK: the Go text returns true and writes nothing that was there. -/
theorem walk (a0 : Int) (a1 : Int) (a2 : Int) (w0 : (Lit.int .i64 a0).wf = true) (w1 : (Lit.int .i64 a1).wf = true) (w2 : (Lit.int .i64 a2).wf = true) (w : World) :
    Calls Yba.prog 3 #[.int .i64 a0, .int .i64 a1, .int .i64 a2] w fun e w' => e = .returned (.bool true) ∧ Below w.heap.size w w' := by
  have hmk : ∀ w : World, (Instr.makeChan 24 (.int .i64 1)).run Yba.prog w = .ok (.chan (some w.heap.size)) (w.alloc (.chan 1 #[] false 0 0 false)) := mk1
  go_enter Yba.func3, Yba.ntmps3
  go_wp2_with fail
  refine (holding_any (w.heap.size + 1) w.heap.size 0 0 false a1 _ (by omega) (by go_simp) (by go_simp) (chan_laid _ _ _)).mono ?_
  rintro e w1 ⟨rfl, hcell, hch, hbel⟩
  have hbel1 : Below w.heap.size w w1 := (((Below.refl _ w).alloc (Nat.le_refl _) _).alloc (by simp) _).trans hbel
  have c0 : w1.cell? ⟨w.heap.size + 1, 0, none⟩ = some (.int .i64 a0) := by rw [hcell _ (by simp)]; go_simp
  have c1 : w1.cell? ⟨w.heap.size + 1, 1, none⟩ = some (.chan (some w.heap.size)) := by rw [hcell _ (by simp)]; go_simp
  have c2 : w1.cell? ⟨w.heap.size + 1, 2, none⟩ = some (.int .i64 a1) := by rw [hcell _ (by simp)]; go_simp
  have c3 : w1.cell? ⟨w.heap.size + 1, 3, none⟩ = some (.int .i64 a2) := by rw [hcell _ (by simp)]; go_simp
  have c4 : w1.cell? ⟨w.heap.size + 1, 4, none⟩ = some (.pointer none) := by rw [hcell _ (by simp)]; go_simp
  have c5 : w1.cell? ⟨w.heap.size + 1, 5, none⟩ = some (.pointer none) := by rw [hcell _ (by simp)]; go_simp
  have hlen := fun ty => run_len_chan (P := Yba.prog) 24 ty Yba.underlying24 hch
  have HB : Hid (Below w.heap.size w w1) := hbel1
  have HC : Hid (w1.heap[w.heap.size]? = some (.chan 1 #[] false (0 + 1) (0 + 1) false)) := hch
  clear hcell hbel hbel1 hch
  go_wp2_with fail
  refine (holding_any (w.heap.size + 1) w.heap.size (0 + 1) (0 + 1) false a1 _ (by omega) c1 c2 HC.out).mono ?_
  rintro e w2 ⟨rfl, hcell, hch, hbel⟩
  have HB2 : Hid (Below w.heap.size w w2) := HB.out.trans hbel
  have d1 : w2.cell? ⟨w.heap.size + 1, 1, none⟩ = some (.chan (some w.heap.size)) := by rw [hcell _ (by simp)]; exact c1
  have hlen2 := fun ty => run_len_chan (P := Yba.prog) 24 ty Yba.underlying24 hch
  clear hcell hbel hch HB HC hlen c0 c1 c2 c3 c4 c5
  go_wp2
  go_ret
  exact ⟨rfl, HB2.out⟩

/-! ### THE ROW's STEP -/
set_option maxRecDepth 100000 in
theorem lifted (os : Os) (started : os.Started) (H : Type) (enc : TypeId × Value → H) :
    ReturnsInHanded {} Yba.checked os 3 .any (Rows.lawS2065BHeldSpec.pre6 enc Yba.prog Yba.f3 Rows.lawS2065BHeldRow.domain false) (Rows.lawS2065BHeldSpec.post enc Yba.prog Yba.f3 false true false false) := by
  refine returnsInHanded_of_change (C := Yba.checked) own started (by kernel_rfl) Yba.func3
    (ChangeSpec.witness6 (enc := enc) (C := Yba.checked) false ⟨#[], #[.int .i64 0, .int .i64 0, .int .i64 0], []⟩ 8 (by kernel_rfl) (by kernel_rfl) (by kernel_rfl) (by kernel_rfl)) ?_
  intro W base args ds gs before hval0 hW hcnd _
  have hval : ∀ (j : Nat) t v, Yba.f3.params[j]? = some t → args[j]? = some v → Value.okWide Yba.prog W .any base t v := hval0
  have hW' := hW
  obtain ⟨p, q, hA0, hV, rfl, hfz, hnd⟩ := hW
  have hA : DataW.TrodAll enc Yba.prog W 0 (fun _ => true) true Yba.f3.params.toList args.toList ds p := hA0
  rw [Yba.params3] at hA hval
  obtain ⟨v0, vs0, d0, ds0, p0, q0, hargs, rfl, rfl, h0, r0⟩ := trodAll_cons hA
  obtain ⟨v1, vs1, d1, ds1, p1, q1, rfl, rfl, rfl, h1, r1⟩ := trodAll_cons r0
  obtain ⟨v2, vs2, d2, ds2, p2, q2, rfl, rfl, rfl, h2, r2⟩ := trodAll_cons r1
  obtain ⟨rfl, rfl, rfl⟩ := trodAll_nil r2
  obtain rfl : args = #[v0, v1, v2] := by cases args; simp_all
  obtain ⟨rfl, rfl⟩ := trodVars_none hV
  obtain ⟨a0, rfl, rfl, rfl, w0⟩ := open_int Yba.underlying3 (hval 0 3 v0 rfl rfl) h0
  obtain ⟨a1, rfl, rfl, rfl, w1⟩ := open_int Yba.underlying3 (hval 1 3 v1 rfl rfl) h1
  obtain ⟨a2, rfl, rfl, rfl, w2⟩ := open_int Yba.underlying3 (hval 2 3 v2 rfl rfl) h2
  clear hA0 hval0
  simp only [List.append_nil] at hW'
  refine (walk a0 a1 a2 w0 w1 w2 W).mono fun e W' ⟨he, hb⟩ => ?_
  subst he
  exact ⟨_, rfl, ⟨_, _, _, [], _, [], hW', trodAll_mk1 (shut_bool Yba.underlying4 _), (trodAll_cons_mk (shut_int Yba.underlying3 w0) (trodAll_cons_mk (shut_int Yba.underlying3 w1) (trodAll_cons_mk (shut_int Yba.underlying3 w2) trodAll_mk0))), rfl, hb.frame _, fun h => by cases h⟩⟩

theorem over : Rows.lawS2065BHeldRow.holds Yba.pinned (OpenSpec.ofChange Rows.lawS2065BHeldSpec) :=
  OpenClaim.holds_of_wide 3 Yba.f3 rfl rfl rfl rfl rfl rfl rfl ⟨rfl, rfl, rfl, rfl, rfl⟩ rfl rfl rfl rfl rfl (by kernel_rfl) Yba.func3 (by kernel_rfl)
    (of_decide_eq_true (by kernel_rfl)) (by unfold Func.isWrapper; first | (rw [if_pos (by decide +kernel)]; kernel_rfl) | (rw [if_neg (by decide +kernel)]; exact ⟨rfl, rfl⟩))
    (fun os started H enc _ => lifted os started H enc)

/-- ████ THE STATEMENT ████ -/
theorem proved : Rows.LawS2065BHeldSaid :=
  over
#print axioms proved
end Go.Proofs.Ybulkapsy.lawS2065BHeld
