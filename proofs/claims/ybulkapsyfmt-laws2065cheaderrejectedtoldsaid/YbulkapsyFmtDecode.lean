/-
  DecodeAnswer: a message that 'open' refuses gives "" and the error; a sound header of kind KindAnswer gives some text and some error, without a panic.
-/
import Derived.Test.YbulkapsyFmtDec
namespace Go.Proofs.YbulkapsyFmt
open Go.RowKit
set_option linter.unusedVariables false

set_option maxHeartbeats 800000 in
/-- 'open' failed. -/
theorem decode_err (msg : Value) (R : Value → Prop) (w : World)
    (h9 : Hid (Calls Ybaf.prog 9 #[msg, .int .u8 4] w fun e w' => ∃ T v, e = .returned (.tuple #[.agg #[.slice none 0 0, .nilIface], .iface T v]) ∧ R (.iface T v) ∧ Below w.heap.size w w')) :
    Calls Ybaf.prog 6 #[msg] w fun e w' => ∃ T v, e = .returned (.tuple #[.string ⟨#[]⟩, .iface T v]) ∧ R (.iface T v) ∧ Below w.heap.size w w' := by
  go_enter Ybaf.func6, Ybaf.ntmps6
  go_wp2_with fail
  refine Calls.mono h9.out ?_
  rintro e w1 ⟨T, v, rfl, hR, hb⟩
  have HR : Hid (R (.iface T v)) := hR
  have HB : Hid (Below w.heap.size w w1) := hb
  have hs := hb.size
  clear hR hb h9
  go_wp2
  go_ret2
  exact ⟨T, v, rfl, HR.out, HB.out.alloc hs _⟩

set_option maxHeartbeats 800000 in
/-- A sound header of kind KindAnswer: the decoder reads on. -/
theorem decode_ok (b n cap : Nat) (T : TypeId) (v : Value) (zs : List Int) (w : World) (hn : 6 ≤ n) (hc : n ≤ cap) (hm : cap ≤ 2000) (hg : w.cell? ⟨0, 0, none⟩ = some (.iface T v))
    (hz : zs.length = n) (hcell : ∀ i, i < n → w.cell? ⟨b, i, none⟩ = some (.int .u8 (zs.getD i 0))) (hw : ∀ z ∈ zs, (Lit.int .u8 z).wf = true)
    (h9 : Hid (Calls Ybaf.prog 9 #[.slice (some ⟨b, 0, none⟩) n cap, .int .u8 4] w fun e w' => (∃ o, (¬ cap = 6 → o = 6) ∧ e = .returned (.tuple #[.agg #[.slice (some ⟨b, o, none⟩) (n - 6) (cap - 6), .nilIface], .nilIface])) ∧ Below w.heap.size w w')) :
    Calls Ybaf.prog 6 #[.slice (some ⟨b, 0, none⟩) n cap] w fun e w' => (∃ s er, e = .returned (.tuple #[.string s, er]) ∧ IsErr er) ∧ Below w.heap.size w w' := by
  have hb0 : b < w.heap.size := World.block_lt_of_cell? _ _ (hcell 0 (by omega))
  have h00 : 0 < w.heap.size := World.block_lt_of_cell? _ _ hg
  have HC : Hid (∀ i, i < n → w.cell? ⟨b, i, none⟩ = some (.int .u8 (zs.getD i 0))) := hcell
  have HG : Hid (w.cell? ⟨0, 0, none⟩ = some (.iface T v)) := hg
  have HW : Hid (∀ z ∈ zs, (Lit.int .u8 z).wf = true) := hw
  clear hcell hg hw
  go_enter Ybaf.func6, Ybaf.ntmps6
  go_wp2_with fail
  refine Calls.mono h9.out ?_
  rintro e w1 ⟨⟨o, ho, rfl⟩, hb⟩
  have hs := hb.size
  have HD : Hid (DecAt w1.heap.size b (.iface T v) (w1.alloc (.cells #[.slice (some ⟨b, o, none⟩) (n - 6) (cap - 6), .nilIface] 35))) := by
    refine ⟨o, n - 6, cap - 6, .nilIface, { c0 := ?_, c1 := ?_, f0 := ?_, f1 := ?_, bD := ?_, mc := ?_, cm := ?_, bytes := ?_, g := ?_, isErr := .inl rfl }⟩
    · simp
    · simp
    · simp
    · simp
    · omega
    · omega
    · omega
    · refine ⟨zs.drop 6, by simp [hz], fun i hi => ?_, fun z hz' => HW.out z (List.mem_of_mem_drop hz')⟩
      rw [World.cell?_alloc_lt _ _ _ (by show b < _; omega), hb.cell (p := ⟨b, o + i, none⟩) hb0, ho (by omega), HC.out (6 + i) (by omega)]
      simp [List.getD]
    · rw [World.cell?_alloc_lt _ _ _ (by show 0 < _; omega), hb.cell (p := ⟨0, 0, none⟩) h00]
      exact HG.out
  have HB : Hid (Below w.heap.size w (w1.alloc (.cells #[.slice (some ⟨b, o, none⟩) (n - 6) (cap - 6), .nilIface] 35))) := hb.alloc hs _
  clear hb h9 ho
  go_wp2_with fail
  refine (string_any w1.heap.size b T v _ HD.out).mono ?_
  rintro e w2 ⟨⟨s, rfl⟩, hd2, hb2⟩
  have HD2 : Hid (DecAt w1.heap.size b (.iface T v) w2) := hd2
  have HB2 : Hid (Below w.heap.size w w2) := HB.out.trans (hb2.mono hs)
  clear hd2 hb2
  go_wp2_with fail
  refine (close_any w1.heap.size b T v _ HD2.out).mono ?_
  rintro e w3 ⟨⟨er, rfl, her⟩, hb3⟩
  have HB3 : Hid (Below w.heap.size w w3) := HB2.out.trans (hb3.mono hs)
  have HE : Hid (IsErr er) := her
  clear hb3 her
  go_wp2
  go_ret2
  exact ⟨⟨s, er, rfl, HE.out⟩, HB3.out⟩
end Go.Proofs.YbulkapsyFmt
