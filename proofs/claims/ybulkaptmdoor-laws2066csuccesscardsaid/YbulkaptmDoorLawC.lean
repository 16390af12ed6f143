/-
  Small laws for the walk of the law.
-/
import Derived.Test.YbulkaptmDoorLawR
namespace Go.Proofs.YbulkaptmDoor
open Go.RowKit
set_option linter.unusedVariables false
set_option linter.unusedSimpArgs false
set_option maxRecDepth 100000

theorem isRow_grow {k : IntKind} {w w' : World} {a : Option Addr} {len cap : Nat} {zs : List Int} (h : IsRow k w a len cap zs) (hg : w.grownBy w' none) : IsRow k w' a len cap zs := by
  rcases h with h | ⟨x, h1, h2, h3, h4, h5, h6⟩
  · exact .inl h
  · exact .inr ⟨x, h1, h2, h3, h4, fun i hi => gcell hg (h5 i hi), h6⟩
theorem load28 {ops : Array Oper} {rest : List Oper} {op : Oper} {a : Act} {w : World} {Q : Exit → Act → World → Prop} (hw : Region.wanted op (yielded ops a.tmps) = true) (x : Operand) (ho : op.op = .load 28 x)
    (b : Nat) (hx : a.eval x = .pointer (some ⟨b, 0, none⟩)) (cs : List Value) (hc : w.rangeAt b 0 cs ∧ cs.length = 18)
    (h : wpList Ybad.prog ops Q rest (a.put op.dst (.agg cs.toArray)) w) : wpList Ybad.prog ops Q (op :: rest) a w :=
  load_mid_g hw 28 x ho b 0 hx cs _ hc.1 Ybad.underlying28 rfl (by rw [hc.2]; exact size28) h

theorem conv_of_row {w : World} {a : Option Addr} {len cap : Nat} {zs : List Int} (h : IsRow .u8 w a len cap zs) : (convert 23 9 (.slice a len cap)).run Ybad.prog w = .ok (.string (strOfNums (zs.take len))) w := by
  rcases h with ⟨rfl, rfl, rfl, rfl⟩ | ⟨x, rfl, h2, h3, h4, h5, h6⟩
  · rw [run_convert_bytes_nil w 23 5 Ybad.underlying23 Ybad.underlying5 0 0 9 Ybad.underlying9]
    rfl
  · have hll : (zs.take len).length = len := by simp; omega
    have hl : (loadCells x len).run Ybad.prog w = .ok ((zs.take len).map (Value.int .u8)).toArray w := by
      have := run_loadCells_list (P := Ybad.prog) w x ((zs.take len).map (Value.int .u8)) (fun j v hj => by
        have hjl : j < len := by
          rcases Nat.lt_or_ge j len with h | h
          · exact h
          · rw [List.getElem?_eq_none (by simp; omega)] at hj; cases hj
        have hjz : j < zs.length := by omega
        rw [h5 j hjz]
        simp only [List.getElem?_map, List.getElem?_take_of_lt hjl, List.getElem?_eq_getElem hjz, Option.map_some, Option.some.injEq] at hj
        rw [← hj, List.getD_eq_getElem?_getD, List.getElem?_eq_getElem hjz, Option.getD_some])
      rw [List.length_map, hll] at this
      exact this
    rw [run_convert_bytes_string w 23 9 5 _ len cap Ybad.underlying23 Ybad.underlying5 Ybad.underlying9, run_bytesToString w _ len cap _ hl, foldl_push_bytes]
    simp [strOfNums, ByteArray.empty, ByteArray.emptyWithCapacity]
    rfl
theorem cellsAt {w : World} {b : Nat} {xs : List Value} (h : ∀ j u, xs[j]? = some u → w.cell? ((⟨b, 0, none⟩ : Addr).add j) = some u) (j : Nat) (u : Value) (hj : xs[j]? = some u) : w.cell? ⟨b, j, none⟩ = some u := by
  have := h j u hj
  rwa [Addr.add_mid, Nat.zero_add] at this
theorem conv_of_U8s {w : World} {da : Option Addr} {dl dc : Nat} {bs : List Int} (h : U8s w da dl bs) : (convert 23 9 (.slice da dl dc)).run Ybad.prog w = .ok (.string (strOfNums bs)) w := by
  have hl : dl = bs.length := h.1
  obtain ⟨g, rfl, hg, hc⟩ := h.cells
  refine run_convert_bytes_arg w 23 5 Ybad.underlying23 Ybad.underlying5 g 0 dl dc bs hl.symm (fun i hi => ?_) 9 Ybad.underlying9
  have hi' : i < bs.length := by omega
  rw [Nat.zero_add, hc i hi', List.getD_eq_getElem?_getD, List.getElem?_eq_getElem hi', Option.getD_some]
end Go.Proofs.YbulkaptmDoor
