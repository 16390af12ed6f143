/-
  'append(b, make([]byte, n)...)' within the capacity, b a row of the call's own: the law that the kit lacks (the model has one operation for it: an append of n zero elements).
-/
import Derived.WalkKit
import Derived.Deep.RegionLaw
namespace Go.Proofs.YbulkaptmDoor
open Go.RowKit

theorem zeroCells_one (z : Value) (n : Nat) : (Builtin.zeroCells #[z] n).toList = List.replicate n z := by
  unfold Builtin.zeroCells
  apply List.ext_getElem
  · simp
  · intro i h1 h2
    simp [Nat.mod_one]

theorem run_append_zeros_fits {P : Program} (w : World) (base : Nat) (t ti ty e : TypeId) (i : TypeInfo) (z : Value) (ht : P.underlying t = some (.slice e)) (hti : P.underlying ti = some (.int .i64)) (hi : P.info? e = some i) (hsize : i.size = 1)
    (hz : i.zero = some z) (hzc : z.cells = #[z]) (hb : i.bytes = 1) (h1 : z.oneCell' = true)
    (g n cap m : Nat) (xs : List Value) (hown : w.ownsRow base e 1 (.slice (some ⟨g, 0, none⟩) n cap) n xs) (hm : m ≤ 1000000) (hroom : n + m ≤ cap) :
    ∃ w', (Builtin.append_ #[t, ti] ty #[.slice (some ⟨g, 0, none⟩) n cap, .int .i64 (m : Int)]).run P w = .ok (.slice (some ⟨g, 0, none⟩) (n + m) cap) w' ∧
      w'.ownsRow base e 1 (.slice (some ⟨g, 0, none⟩) (n + m) cap) (n + m) (xs ++ List.replicate m z) ∧ w.grownBy w' (some g) := by
  have hlen : (xs ++ List.replicate m z).length = (n + m) * 1 := by rw [List.length_append, hown.1, List.length_replicate]; omega
  rcases hown.2 with ⟨h, _⟩ | ⟨g', cap', cur, h, hbg, hg, hnc, hcm, hcs, htake⟩
  · simp at h
  · simp only [Value.slice.injEq, Option.some.injEq, Addr.mk.injEq, and_true, true_and] at h
    obtain ⟨rfl, rfl⟩ := h
    have hst := run_storeCells_at P g n e (List.replicate m z) 0 cur w hg (by simp; omega) (fun v hv => by rw [List.eq_of_mem_replicate hv]; exact h1)
    simp only [Nat.add_zero] at hst
    have hzv : (zeroValue e).run P w = .ok z w := by simp [zeroValue, typeInfo, hi, hz]
    refine ⟨w.setRow g (cur.toList.take n ++ List.replicate m z ++ cur.toList.drop (n + (List.replicate m z).length)).toArray, ?_, ⟨hlen, .inr ⟨g, cap, _, rfl, hbg, setRow_heap w g cur _ e _ hg, hroom, hcm, ?_, ?_⟩⟩, ⟨rfl, rfl, rfl, by simp, fun k _ hk => setRow_other w g k _ (fun e => hk (by simp [e]))⟩⟩
    · have hw : IntKind.i64.wrap (m : Int) = m := by rw [IntKind.wrap_i64]; omega
      have ha : ∀ x : Int, (asIntOf (.int .i64 x)).run P w = .ok (.i64, x) w := fun _ => rfl
      by_cases h0 : m = 0
      · subst h0
        simp only [List.replicate_zero, List.length_nil, Nat.add_zero, List.append_nil, List.take_append_drop, Array.toArray_toList]
        rw [setRow_self w g cur e (0, 0) hg]
        have hw0 : IntKind.i64.wrap 0 = 0 := by decide
        simp [Builtin.append_, run_underlying ht, run_underlying hti, sizeOf, typeInfo, hi, hsize, hb, asInt, ha, hw0, hnc, storeCells]
      · have n1 : ¬ ((m : Int) < 0) := by omega
        have n2 : ¬ ((281474976710656 : Int) < (m : Int)) := by omega
        simp [Builtin.append_, run_underlying ht, run_underlying hti, sizeOf, typeInfo, hi, hsize, hb, asInt, ha, hw, n1, n2, hroom, h0, hzv, hzc, zeroCells_one, Addr.add_lit, hst]
    · simp only [List.size_toArray, List.length_append, List.length_take, List.length_drop, Array.length_toList, List.length_replicate]
      omega
    · rw [show cur.toList.take n = xs by simpa using htake, ← hlen]
      exact List.take_left

/-- The same as one step of a region that draws its order. -/
theorem step_append_zeros {P : Program} {ops : Array Oper} {o : Oper} {a : Act} {w : World} {K : Act → World → Prop} {Q : Exit → Act → World → Prop} {E : Prop}
    (hgd : o.guard = none) (s x : Operand) (t ti : TypeId) (hop : o.op = Op.call { callee := Callee.builtin Builtin.append, args := #[s, x], argTypes := #[t, ti] })
    (base : Nat) (e : TypeId) (i : TypeInfo) (z : Value) (ht : P.underlying t = some (.slice e)) (hti : P.underlying ti = some (.int .i64)) (hi : P.info? e = some i) (hsize : i.size = 1)
    (hz : i.zero = some z) (hzc : z.cells = #[z]) (hb : i.bytes = 1) (h1 : z.oneCell' = true)
    (g n cap m : Nat) (M : Int) (xs : List Value) (hs : a.eval s = .slice (some ⟨g, 0, none⟩) n cap) (hx : a.eval x = .int .i64 M) (hM : M = (m : Int))
    (hown : w.ownsRow base e 1 (.slice (some ⟨g, 0, none⟩) n cap) n xs) (hm : m ≤ 1000000) (hroom : n + m ≤ cap)
    (hK : ∀ w', w'.ownsRow base e 1 (.slice (some ⟨g, 0, none⟩) (n + m) cap) (n + m) (xs ++ List.replicate m z) → w.grownBy w' (some g) → K (a.put o.dst (.slice (some ⟨g, 0, none⟩) (n + m) cap)) w') :
    if Region.wanted o (yielded ops a.tmps) = true then Oper.wp P o a w K Q else E := by
  have hw : Region.wanted o (yielded ops a.tmps) = true := by simp [Region.wanted, hgd]
  rw [if_pos hw]
  obtain ⟨w', hrun, r1, r2⟩ := run_append_zeros_fits (P := P) w base t ti o.type e i z ht hti hi hsize hz hzc hb h1 g n cap m xs hown hm hroom
  subst hM
  unfold Oper.wp
  simp [execOp, hop, resolve, invoke, builtin, hs, hx, hrun, Result.andThen]
  exact hK w' r1 r2
end Go.Proofs.YbulkaptmDoor
