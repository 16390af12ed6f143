/-
  Rows of exact.Ratio (six cells an element): copy between two such rows (the kit's copy laws serve elements of one cell), a store into one, (f5) zzs2067cratio.
-/
import Derived.Test.YbulkapuaDrain
import Derived.Laws.CopyRow
import Derived.Deep.RegionLaw
namespace Go.Proofs.Ybulkapua
open Go.RowKit
set_option linter.unusedVariables false
set_option linter.unusedSimpArgs false
set_option maxRecDepth 100000

/-- copy of elements of 'size' cells, from the head of the row. -/
theorem run_copy_wide {P : Program} (w : World) (dT sT ty elem : TypeId) (size : Nat) (g dLen dCap : Nat) (a : Addr) (sLen sCap : Nat) (cur : Array Value) (t : TypeId) (cs : List Value)
    (hu : P.underlying dT = some (.slice elem)) (hs : (P.info? elem).map (·.size) = some size)
    (hg : w.heap[g]? = some (.cells cur t (0, 0))) (hn : cs.length = Nat.min sLen dLen * size)
    (hsrc : ∀ j v, cs[j]? = some v → w.cell? (a.add j) = some v) (hfit : cs.length ≤ cur.size) (h1 : ∀ v ∈ cs, v.oneCell' = true) :
    (Builtin.copy_ #[dT, sT] ty #[.slice (some ⟨g, 0, none⟩) dLen dCap, .slice (some a) sLen sCap]).run P w =
      .ok (goInt (Nat.min sLen dLen)) (w.setRow g (cs ++ cur.toList.drop cs.length).toArray) := by
  have hl := run_firstCells_some (P := P) w size (Nat.min sLen dLen) a sLen sCap cs hn hsrc
  have hst := run_storeCells_at P g 0 t cs 0 cur w hg (by simpa using hfit) h1
  cases hq : P.info? elem with
  | none => simp [hq] at hs
  | some i =>
    have hi : i.size = size := by simpa [hq] using hs
    simp at hst
    simp [Builtin.copy_, run_underlying hu, Builtin.lenOf, sizeOf, typeInfo, hq, hi, hl, hst]

theorem step_copy_wide {P : Program} {ops : Array Oper} {o : Oper} {a : Act} {w : World} {K : Act → World → Prop} {Q : Exit → Act → World → Prop} {E : Prop} (hgd : o.guard = none) (d s : Operand) (dT sT : TypeId)
    (ho : o.op = .call { callee := .builtin .copy, args := #[d, s], argTypes := #[dT, sT] }) (elem : TypeId) (size : Nat) (hu : P.underlying dT = some (.slice elem)) (hsz : (P.info? elem).map (·.size) = some size)
    (g dLen dCap : Nat) (ad : Addr) (sLen sCap : Nat) (hd : a.eval d = .slice (some ⟨g, 0, none⟩) dLen dCap) (hs : a.eval s = .slice (some ad) sLen sCap)
    (cur : Array Value) (t : TypeId) (hg : w.heap[g]? = some (.cells cur t (0, 0))) (cs : List Value) (hn : cs.length = Nat.min sLen dLen * size)
    (hsrc : ∀ j v, cs[j]? = some v → w.cell? (ad.add j) = some v) (hfit : cs.length ≤ cur.size) (h1 : ∀ v ∈ cs, v.oneCell' = true)
    (h : K (a.put o.dst (goInt (Nat.min sLen dLen))) (w.setRow g (cs ++ cur.toList.drop cs.length).toArray)) :
    if Region.wanted o (yielded ops a.tmps) = true then Oper.wp P o a w K Q else E := by
  have hw : Region.wanted o (yielded ops a.tmps) = true := by simp [Region.wanted, hgd]
  rw [if_pos hw]
  have hrun := run_copy_wide (P := P) w dT sT o.type elem size g dLen dCap ad sLen sCap cur t cs hu hsz hg hn hsrc hfit h1
  unfold Oper.wp
  simp [execOp, ho, resolve, invoke, builtin, hd, hs, hrun, Result.andThen]
  exact h

/-- A ratio x over 1. -/
def rat (x : Int) : List Value := [.int .u64 x, .int .u64 0, .int .u64 0, .int .u64 1, .int .u64 0, .int .u64 0]
def flatR (xs : List Int) : List Value := xs.flatMap rat
theorem flatR_length (xs : List Int) : (flatR xs).length = xs.length * 6 := by
  induction xs with
  | nil => rfl
  | cons a r ih => simp only [flatR, List.flatMap_cons, List.length_append, List.length_cons] at *; rw [ih]; simp [rat]; omega
theorem flatR_append (a b : List Int) : flatR (a ++ b) = flatR a ++ flatR b := by simp [flatR]
theorem flatR_one (xs : List Int) : ∀ v ∈ flatR xs, v.oneCell' = true := by
  intro u hu
  simp only [flatR, List.mem_flatMap, rat] at hu
  obtain ⟨a, _, hu⟩ := hu
  simp only [List.mem_cons, List.not_mem_nil, or_false] at hu
  rcases hu with rfl | rfl | rfl | rfl | rfl | rfl <;> rfl
theorem flatR_get (xs : List Int) (i j : Nat) (hi : i < xs.length) (hj : j < 6) : (flatR xs)[i * 6 + j]? = (rat (xs.getD i 0))[j]? := by
  induction xs generalizing i with
  | nil => simp at hi
  | cons a r ih =>
    cases i with
    | zero =>
      simp only [flatR, List.flatMap_cons, Nat.zero_mul, Nat.zero_add]
      rw [List.getElem?_append_left (by simp [rat]; omega)]
      simp
    | succ i =>
      have := ih i (by simpa using hi)
      simp only [flatR, List.flatMap_cons] at *
      rw [List.getElem?_append_right (by simp [rat]; omega), show (i + 1) * 6 + j - (rat a).length = i * 6 + j by simp [rat]; omega, this]
      simp

/-- (f5) zzs2067cratio. -/
theorem ratio_any (x : Int) (w : World) :
    Calls Yba.prog 5 #[.int .u64 x] w fun e w' => e = .returned (.agg #[.int .u64 x, .int .u64 0, .int .u64 0, .int .u64 1, .int .u64 0, .int .u64 0]) ∧ w.grownBy w' none := by
  go_enter Yba.func5, Yba.ntmps5
  go_wp2
  refine bodyPost_ret (v := .agg #[.int .u64 x, .int .u64 0, .int .u64 0, .int .u64 1, .int .u64 0, .int .u64 0]) (by simp [results, Yba.results5, go_sem]) rfl ⟨rfl, World.grownBy_alloc _ _ _⟩

theorem heap_set (w : World) (k j : Nat) (c : Array Value) (t : TypeId) (f : Nat × Nat) (u : Value) (h : w.heap[k]? = some (.cells c t f)) : (w.setCell ⟨k, j, none⟩ u).heap[k]? = some (.cells (c.setIfInBounds j u) t f) := by
  simp [World.setCell, Array.getElem?_modify, h]
theorem set_at (A : List Value) (r : Value) (R : List Value) (v : Value) (o : Nat) (h : A.length = o) : (A ++ r :: R).set o v = A ++ v :: R := by
  subst h
  simp
/-- A row whose first i elements are written, the rest being whatever. -/
structure Part (w : World) (b : Nat) (xs : List Int) (n : Nat) : Prop where
  row : ∃ rest : List Value, w.heap[b]? = some (.cells (flatR xs ++ rest).toArray 30 (0, 0)) ∧ rest.length = (n - xs.length) * 6
theorem Part.write {w : World} {b : Nat} {xs : List Int} {n : Nat} (h : Part w b xs n) (hn : xs.length < n) (x : Int) :
    Part ((((((w.setCell ⟨b, xs.length * 6, none⟩ (.int .u64 x)).setCell ⟨b, xs.length * 6 + 1, none⟩ (.int .u64 0)).setCell ⟨b, xs.length * 6 + 2, none⟩ (.int .u64 0)).setCell ⟨b, xs.length * 6 + 3, none⟩ (.int .u64 1)).setCell ⟨b, xs.length * 6 + 4, none⟩ (.int .u64 0)).setCell ⟨b, xs.length * 6 + 5, none⟩ (.int .u64 0)) b (xs ++ [x]) n := by
  obtain ⟨rest, hr, hl⟩ := h.row
  obtain ⟨k, hk⟩ : ∃ k, n - xs.length = k + 1 := ⟨n - xs.length - 1, by omega⟩
  rw [hk] at hl
  rcases rest with _ | ⟨r0, _ | ⟨r1, _ | ⟨r2, _ | ⟨r3, _ | ⟨r4, _ | ⟨r5, rest'⟩⟩⟩⟩⟩⟩
  · exfalso; simp at hl; try omega
  · exfalso; simp at hl; try omega
  · exfalso; simp at hl; try omega
  · exfalso; simp at hl; try omega
  · exfalso; simp at hl; try omega
  · exfalso; simp at hl; try omega
  · refine ⟨rest', ?_, by simp at hl ⊢; omega⟩
    rw [heap_set _ _ _ _ _ _ _ (heap_set _ _ _ _ _ _ _ (heap_set _ _ _ _ _ _ _ (heap_set _ _ _ _ _ _ _ (heap_set _ _ _ _ _ _ _ (heap_set _ _ _ _ _ _ _ hr)))))]
    simp only [List.setIfInBounds_toArray]
    have hA := flatR_length xs
    rw [set_at _ _ _ _ _ hA]
    have e1 := set_at (flatR xs ++ [.int .u64 x]) r1 (r2 :: r3 :: r4 :: r5 :: rest') (.int .u64 0) (xs.length * 6 + 1) (by simp [hA])
    have e2 := set_at (flatR xs ++ [.int .u64 x, .int .u64 0]) r2 (r3 :: r4 :: r5 :: rest') (.int .u64 0) (xs.length * 6 + 2) (by simp [hA])
    have e3 := set_at (flatR xs ++ [.int .u64 x, .int .u64 0, .int .u64 0]) r3 (r4 :: r5 :: rest') (.int .u64 1) (xs.length * 6 + 3) (by simp [hA])
    have e4 := set_at (flatR xs ++ [.int .u64 x, .int .u64 0, .int .u64 0, .int .u64 1]) r4 (r5 :: rest') (.int .u64 0) (xs.length * 6 + 4) (by simp [hA])
    have e5 := set_at (flatR xs ++ [.int .u64 x, .int .u64 0, .int .u64 0, .int .u64 1, .int .u64 0]) r5 rest' (.int .u64 0) (xs.length * 6 + 5) (by simp [hA])
    simp only [List.append_assoc, List.cons_append, List.nil_append] at e1 e2 e3 e4 e5
    rw [e1, e2, e3, e4, e5, flatR_append]
    simp [flatR, rat]
/-- The cells to be written are there. -/
theorem Part.there {w : World} {b : Nat} {xs : List Int} {n : Nat} (h : Part w b xs n) (hn : xs.length < n) (j : Nat) (hj : j < 6) : (∃ v, w.cell? ⟨b, xs.length * 6 + j, none⟩ = some v) ∧ w.frozen? ⟨b, xs.length * 6 + j, none⟩ = false := by
  obtain ⟨rest, hr, hl⟩ := h.row
  have hA := flatR_length xs
  have hlt : xs.length * 6 + j < (flatR xs ++ rest).length := by
    rw [List.length_append, hA, hl]
    have : 6 ≤ (n - xs.length) * 6 := by omega
    omega
  constructor
  · refine ⟨(flatR xs ++ rest)[xs.length * 6 + j]'hlt, ?_⟩
    simp only [World.cell?, hr]
    rw [List.getElem?_toArray, List.getElem?_eq_getElem hlt]
    rfl
  · simp [World.frozen?, hr]
end Go.Proofs.Ybulkapua
