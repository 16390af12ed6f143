/-
  DecodeAnswer over a message whose bytes are known, one way after the other.
-/
import Derived.Test.YbulkapsyFmtDecode
namespace Go.Proofs.YbulkapsyFmt
open Go.RowKit
set_option linter.unusedVariables false

/-- A message in block b: its bytes. -/
structure Msg (b n cap : Nat) (zs : List Int) (w : World) : Prop where
  len : zs.length = n
  cell : ∀ i, i < n → w.cell? ⟨b, i, none⟩ = some (.int .u8 (zs.getD i 0))
  lt : b < w.heap.size
  nc : n ≤ cap
  cm : cap ≤ 2000

theorem Msg.below {b n cap : Nat} {zs : List Int} {w w' : World} (h : Msg b n cap zs w) (hb : Below w.heap.size w w') : Msg b n cap zs w' where
  len := h.len
  cell i hi := by rw [hb.cell (p := ⟨b, i, none⟩) h.lt]; exact h.cell i hi
  lt := Nat.lt_of_lt_of_le h.lt hb.size
  nc := h.nc
  cm := h.cm

theorem Msg.alloc {b n cap : Nat} {zs : List Int} {w : World} (h : Msg b n cap zs w) (o : Obj) : Msg b n cap zs (w.alloc o) :=
  h.below ((Below.refl _ w).alloc (Nat.le_refl _) o)

theorem Msg.of_owns {B b n cap : Nat} {zs : List Int} {w : World} (h : w.ownsRow B 5 1 (.slice (some ⟨b, 0, none⟩) n cap) n (zs.map (Value.int .u8))) (hz : zs.length = n) (hc : n ≤ cap) (hm : cap ≤ 2000) : Msg b n cap zs w where
  len := hz
  cell i hi := by
    rw [h.cellAt i (by omega)]
    simp [List.getD, List.getElem?_eq_getElem (show i < zs.length by omega)]
  lt := (h.lt _ rfl).2
  nc := hc
  cm := hm

theorem msgOf_length (v k : Int) (zs : List Int) : (msgOf v k zs).length = 6 + zs.length := by simp [msgOf]; omega

/-- A sound header of another kind: "" and an error. -/
theorem decode_kind (b n cap : Nat) (kk : Int) (raw : List Int) (w : World) (h : Msg b n cap (msgOf 1 kk raw) w) (hk : (kk != 4) = true) :
    Calls Ybaf.prog 6 #[.slice (some ⟨b, 0, none⟩) n cap] w fun e w' => ∃ T v, e = .returned (.tuple #[.string ⟨#[]⟩, .iface T v]) ∧ True ∧ Below w.heap.size w w' := by
  have hn : 6 ≤ n := by have := h.len; rw [msgOf_length] at this; omega
  refine decode_err _ (fun _ => True) w ?_
  show Calls Ybaf.prog 9 #[.slice (some ⟨b, 0, none⟩) n cap, .int .u8 4] w _
  have ha := h.alloc (.cells #[.slice none 0 0, .nilIface] 35)
  refine (open_kind _ kk 4 w hk ?_).mono fun e w' ⟨T, v, he, hb⟩ => ⟨T, v, he, trivial, hb⟩
  exact kindOf_ok b n cap kk _ hn h.nc h.cm (ha.cell 0 (by omega)) (ha.cell 1 (by omega)) (ha.cell 2 (by omega)) (ha.cell 3 (by omega)) (ha.cell 4 (by omega)) (ha.cell 5 (by omega))

/-- A sound header of kind KindAnswer. -/
theorem decode_answer (b n cap : Nat) (T : TypeId) (v : Value) (raw : List Int) (w : World) (h : Msg b n cap (msgOf 1 4 raw) w) (hg : w.cell? ⟨0, 0, none⟩ = some (.iface T v)) (hw : ∀ z ∈ raw, (Lit.int .u8 z).wf = true) :
    Calls Ybaf.prog 6 #[.slice (some ⟨b, 0, none⟩) n cap] w fun e w' => (∃ s er, e = .returned (.tuple #[.string s, er]) ∧ IsErr er) ∧ Below w.heap.size w w' := by
  have hn : 6 ≤ n := by have := h.len; rw [msgOf_length] at this; omega
  refine decode_ok b n cap T v (msgOf 1 4 raw) w hn h.nc h.cm hg h.len h.cell ?_ ?_
  · intro z hz
    simp only [msgOf, List.mem_append, List.mem_cons, List.not_mem_nil, or_false] at hz
    rcases hz with ((h | h | h | h) | (h | h)) | h
    · subst h; decide
    · subst h; decide
    · subst h; decide
    · subst h; decide
    · subst h; decide
    · subst h; decide
    · exact hw z h
  · show Calls Ybaf.prog 9 #[.slice (some ⟨b, 0, none⟩) n cap, .int .u8 4] w _
    have ha := h.alloc (.cells #[.slice none 0 0, .nilIface] 35)
    refine open_ok b n cap 4 w hn h.nc h.cm ?_
    exact kindOf_ok b n cap 4 _ hn h.nc h.cm (ha.cell 0 (by omega)) (ha.cell 1 (by omega)) (ha.cell 2 (by omega)) (ha.cell 3 (by omega)) (ha.cell 4 (by omega)) (ha.cell 5 (by omega))
end Go.Proofs.YbulkapsyFmt
