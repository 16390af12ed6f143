/-
  LawS2066BEncodes: from the walks to the row.
-/
import Derived.Test.YbulkaptmRows
import Derived.Test.YbulkaptmLawEdge
import Derived.ProofKit
import Derived.ShutString
import Derived.ChangeOld
import Derived.Deep.Slices
import Derived.Lib.SmallJoins
namespace Go.Proofs.Ybulkaptm.lawS2066BEncodes
open Go.ChangeShapes Go.WideShapes Go.ChangeAt Go.RowKit Go.Deep Go.Joins
open Go.ChangeMaps (open_string shut_string)
set_option linter.unusedVariables false

theorem own : ownKnob Yba.prog.godebug = none := by kernel_rfl
theorem laidOut : laidOutB Yba.prog = true := by kernel_rfl
theorem cells30 : Yba.prog.cellsOf 30 = 4 := by kernel_rfl
theorem cells22 : Yba.prog.cellsOf 22 = 1 := by kernel_rfl
theorem cells5 : Yba.prog.cellsOf 5 = 1 := by kernel_rfl
theorem cells28 : Yba.prog.cellsOf 28 = 1 := by kernel_rfl

/-- One AVP that came in. -/
theorem open_avp {H : Type} {ec : TypeId × Value → H} {W : World} {n : Nat} {cs : List Value} {x : DataW H × List MemPlace} (h : DataW.trod ec Yba.prog W 0 (fun _ => true) true n 30 cs = some x) :
    ∃ a : Avp, cs = [.int .u32 a.code, .int .u8 a.flags, .int .u32 a.vendor, .slice a.da a.dl a.dc] ∧ a.Fits W ∧ a.dl ≤ maxLen := by
  obtain ⟨y0, y1, y2, y3, m, _, hl, t0, t1, t2, t3⟩ := trod_struct4 Yba.underlying30 h
  rw [cells30] at hl
  match cs, hl with
  | [c0, c1, c2, c3], _ =>
    simp [cells22, cells5, cells28] at t0 t1 t2 t3
    obtain ⟨code, e0, _, w0⟩ := DataW.trod_int Yba.underlying22 t0
    obtain ⟨flags, e1, _, w1⟩ := DataW.trod_int Yba.underlying5 t1
    obtain ⟨vendor, e2, _, w2⟩ := DataW.trod_int Yba.underlying22 t2
    simp at e0 e1 e2
    subst e0 e1 e2
    have b0 := bounds_u32 w0
    have b1 := bounds_u8 w1
    have b2 := bounds_u32 w2
    have b0' : code < 4294967296 := by omega
    have b2' : vendor < 4294967296 := by omega
    rcases open_ints Yba.underlying28 Yba.underlying5 (by kernel_rfl) t3 with ⟨hcs, _⟩ | ⟨x, l, c, zs, hcs, _, hlc, hm, hz, _, hcell, hwz⟩
    · simp at hcs
      subst hcs
      exact ⟨⟨code, flags, vendor, none, 0, 0, []⟩, rfl, ⟨b0.1, b0', b1.1, b1.2, b2.1, b2', .inl ⟨rfl, rfl, rfl, rfl⟩⟩, Nat.zero_le _⟩
    · simp at hcs
      subst hcs
      exact ⟨⟨code, flags, vendor, some x, l, c, zs⟩, rfl, ⟨b0.1, b0', b1.1, b1.2, b2.1, b2', .inr ⟨x, rfl, hlc, hm, by simpa using hz, hcell, hwz⟩⟩, Nat.le_trans hlc hm⟩

/-- A slice of AVPs that came in: nil or empty; or a row of them. -/
theorem open_avps {H : Type} {ec : TypeId × Value → H} {W : World} {n : Nat} {ao : Option Addr} {len cap : Nat} {x : DataW H × List MemPlace} (h : DataW.trod ec Yba.prog W 0 (fun _ => true) true n 23 [.slice ao len cap] = some x) :
    len = 0 ∨ ∃ (b off : Nat) (avs : List Avp), ao = some ⟨b, off, none⟩ ∧ avs.length = len ∧ (∀ i (h : i < avs.length), (avs[i]).At W b (off + i * 4) ∧ (avs[i]).Fits W) ∧ ∀ a ∈ avs, a.dl ≤ maxLen := by
  rcases open_slice Yba.underlying23 h with ⟨hcs, _⟩ | ⟨x, l, c, m, k, D, Pl, hcs, _, hlc, hm, hmm, _, hel⟩
  · simp at hcs
    exact .inl hcs.2.1
  simp at hcs
  obtain ⟨rfl, rfl, rfl⟩ := hcs
  rw [cells30] at hel
  have hlm : len ≤ m := by rw [hmm]; simp; omega
  rcases Nat.eq_zero_or_pos len with h0 | hpos
  · exact .inl h0
  right
  have each : ∀ i, i < len → ∃ a : Avp, (W.cell? (x.add (i * 4)) = some (.int .u32 a.code) ∧ W.cell? ((x.add (i * 4)).add 1) = some (.int .u8 a.flags) ∧ W.cell? ((x.add (i * 4)).add 2) = some (.int .u32 a.vendor) ∧ W.cell? ((x.add (i * 4)).add 3) = some (.slice a.da a.dl a.dc)) ∧ a.Fits W ∧ a.dl ≤ maxLen := by
    intro i hi
    obtain ⟨cs', h1, h2⟩ := hel i (by omega)
    obtain ⟨a, rfl, hf, hd⟩ := open_avp h2
    obtain ⟨_, _, hc⟩ := World.cells?_some h1
    refine ⟨a, ⟨?_, ?_, ?_, ?_⟩, hf, hd⟩
    · have := hc 0 (by omega); simpa [Addr.add] using this
    · simpa using hc 1 (by omega)
    · simpa using hc 2 (by omega)
    · simpa using hc 3 (by omega)
  obtain ⟨b, off, spot⟩ := x
  have hspot : spot = none := by
    obtain ⟨a, ⟨h1, _⟩, _⟩ := each 0 hpos
    simpa [Addr.add] using World.cell?_spot h1
  subst hspot
  have inh : Inhabited Avp := ⟨⟨0, 0, 0, none, 0, 0, []⟩⟩
  obtain ⟨F, hF⟩ := choose_lt each
  refine ⟨b, off, (List.range len).map F, rfl, by simp, fun i hi => ?_, fun a ha => ?_⟩
  · have hi' : i < len := by simpa using hi
    have := hF i hi'
    simp only [List.getElem_map, List.getElem_range]
    simp only [Addr.add_lit] at this
    exact ⟨⟨this.1.1, this.1.2.1, this.1.2.2.1, this.1.2.2.2⟩, this.2.1⟩
  · obtain ⟨i, hi, rfl⟩ := List.mem_map.1 ha
    exact (hF i (List.mem_range.1 hi)).2.2

set_option maxRecDepth 100000 in
theorem lifted (os : Os) (started : os.Started) (H : Type) (enc : TypeId × Value → H) :
    ReturnsInHanded {} Yba.checked os 3 .any (Rows.lawS2066BEncodesSpec.pre6 enc Yba.prog Yba.f3 Rows.lawS2066BEncodesRow.domain false) (Rows.lawS2066BEncodesSpec.post enc Yba.prog Yba.f3 false true false false) := by
  refine returnsInHanded_of_change (C := Yba.checked) own started (by kernel_rfl) Yba.func3
    (ChangeSpec.witness6 (enc := enc) (C := Yba.checked) false ⟨#[], #[.string ⟨#[]⟩, .int .u32 0, .int .u32 0, .bool false, .int .u8 0, .slice none 0 0], []⟩ 8 (by kernel_rfl) (by kernel_rfl) (by kernel_rfl) (by kernel_rfl)) ?_
  intro W base args ds gs before hval0 hW hcnd _
  have hval : ∀ (j : Nat) t v, Yba.f3.params[j]? = some t → args[j]? = some v → Value.okWide Yba.prog W .any base t v := hval0
  have hW' := hW
  obtain ⟨p, q, hA0, hV, rfl, hfz, hnd⟩ := hW
  have hA : DataW.TrodAll enc Yba.prog W 0 (fun _ => true) true Yba.f3.params.toList args.toList ds p := hA0
  rw [Yba.params3] at hA hval
  obtain ⟨v0, vs0, d0, ds0, p0, q0, hargs, rfl, rfl, h0, r0⟩ := trodAll_cons hA
  obtain ⟨v1, vs1, d1, ds1, p1, q1, rfl, rfl, rfl, h1, r1⟩ := trodAll_cons r0
  obtain ⟨v2, vs2, d2, ds2, p2, q2, rfl, rfl, rfl, h2, r2⟩ := trodAll_cons r1
  obtain ⟨v3, vs3, d3, ds3, p3, q3, rfl, rfl, rfl, h3, r3⟩ := trodAll_cons r2
  obtain ⟨v4, vs4, d4, ds4, p4, q4, rfl, rfl, rfl, h4, r4⟩ := trodAll_cons r3
  obtain ⟨v5, vs5, d5, ds5, p5, q5, rfl, rfl, rfl, h5, r5⟩ := trodAll_cons r4
  obtain ⟨rfl, rfl, rfl⟩ := trodAll_nil r5
  obtain rfl : args = #[v0, v1, v2, v3, v4, v5] := by cases args; simp_all
  obtain ⟨rfl, rfl⟩ := trodVars_none hV
  obtain ⟨name, rfl, rfl, rfl, wn⟩ := open_string Yba.underlying9 (hval 0 9 v0 rfl rfl) h0
  obtain ⟨code, rfl, rfl, rfl, wc⟩ := open_int Yba.underlying22 (hval 1 22 v1 rfl rfl) h1
  obtain ⟨vendor, rfl, rfl, rfl, wv⟩ := open_int Yba.underlying22 (hval 2 22 v2 rfl rfl) h2
  obtain ⟨mand, rfl, rfl, rfl⟩ := open_bool Yba.underlying4 (hval 3 4 v3 rfl rfl) h3
  obtain ⟨typ, rfl, rfl, rfl, wt⟩ := open_int Yba.underlying5 (hval 4 5 v4 rfl rfl) h4
  obtain ⟨a0, len0, cap0, rfl⟩ := okWide_slice Yba.underlying23 (hval 5 23 v5 rfl rfl)
  have k5 := h5
  have lt5 : ∀ x ∈ p5, x.block < W.heap.size := by obtain ⟨m, hm⟩ := k5; exact DataW.trod_lt m _ _ _ hm
  have key : Calls Yba.prog 3 #[.string name, .int .u32 code, .int .u32 vendor, .bool mand, .int .u8 typ, .slice a0 len0 cap0] W fun e w' => e = .returned (.bool true) ∧ Below W.heap.size W w' := by
    obtain ⟨fuel, hf⟩ := h5
    by_cases hlong : (256 : Int) < len0
    · exact law_long name code vendor typ mand a0 len0 cap0 W hlong
    rcases open_avps (by simpa [Value.cells] using hf) with rfl | ⟨b, off, avs, rfl, hl, hat, hd⟩
    · exact law_none name code vendor typ mand a0 cap0 W
    · exact law_row name code vendor typ mand b off len0 cap0 avs W hl (by omega) hd hat
  clear hA0 hval0
  refine key.mono fun e W' ⟨he, bel⟩ => ?_
  subst he
  exact ⟨_, rfl, _, _, _, [], _, [], hW', trodAll_mk1 (shut_bool Yba.underlying4 _), (trodAll_cons_mk (shut_string Yba.underlying9 wn) (trodAll_cons_mk (shut_int Yba.underlying22 wc) (trodAll_cons_mk (shut_int Yba.underlying22 wv) (trodAll_cons_mk (shut_bool Yba.underlying4 _) (trodAll_cons_mk (shut_int Yba.underlying5 wt) (trodAll_cons_mk (Below.trod laidOut (by kernel_rfl) (of_decide_eq_true (by kernel_rfl)) k5 bel lt5) trodAll_mk0)))))), rfl, bel.frame _, fun h => by cases h⟩

theorem over : Rows.lawS2066BEncodesRow.holds Yba.pinned (OpenSpec.ofChange Rows.lawS2066BEncodesSpec) :=
  OpenClaim.holds_of_wide 3 Yba.f3 rfl rfl rfl rfl rfl rfl rfl ⟨rfl, rfl, rfl, rfl, rfl⟩ rfl rfl rfl rfl rfl (by kernel_rfl) Yba.func3 (by kernel_rfl)
    (of_decide_eq_true (by kernel_rfl)) (by unfold Func.isWrapper; first | (rw [if_pos (by decide +kernel)]; kernel_rfl) | (rw [if_neg (by decide +kernel)]; exact ⟨rfl, rfl⟩))
    (fun os started H enc _ => lifted os started H enc)

/-- ████ THE STATEMENT ████ -/
theorem proved : Rows.LawS2066BEncodesSaid := over
#print axioms proved
end Go.Proofs.Ybulkaptm.lawS2066BEncodes
