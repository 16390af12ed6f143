/-
  The walk of LawS2065COnlyAnswers.
-/
import Derived.Test.YbulkapsyFmtWays
namespace Go.Proofs.YbulkapsyFmt
open Go.RowKit
set_option linter.unusedVariables false

theorem IsRow.wf_take {k : IntKind} {w : World} {a : Option Addr} {len cap : Nat} {zs : List Int} (h : IsRow k w a len cap zs) : ∀ z ∈ zs.take len, (Lit.int k z).wf = true := by
  intro z hz
  rcases h with ⟨_, _, _, rfl⟩ | ⟨x, _, _, _, _, _, hw⟩
  · simp at hz
  · exact hw z (List.mem_of_mem_take hz)

set_option maxHeartbeats 1600000 in
theorem only_walk (kind : Int) (ra : Option Addr) (rlen rcap : Nat) (zs : List Int) (T : TypeId) (v : Value) (w : World) (hr : IsRow .u8 w ra rlen rcap zs) (hk : (Lit.int .u8 kind).wf = true)
    (hg : w.cell? ⟨0, 0, none⟩ = some (.iface T v)) :
    Calls Ybaf.prog 4 #[.int .u8 kind, .slice ra rlen rcap] w fun e w' => e = .returned (.bool true) ∧ Below w.heap.size w w' := by
  have HR : Hid (IsRow .u8 w ra rlen rcap zs) := hr
  have HG : Hid (w.cell? ⟨0, 0, none⟩ = some (.iface T v)) := hg
  have h00 : 0 < w.heap.size := World.block_lt_of_cell? _ _ hg
  have hkb := bounds_u8 hk
  have hk0 := hkb.1
  have hk1 := hkb.2
  clear hr hg hkb hk
  by_cases hl : (1024 : Int) < rlen
  · go_enter Ybaf.func4, Ybaf.ntmps4
    go_wp2
    go_ret
    exact ⟨rfl, Below.refl _ _⟩
  have hl' : rlen ≤ 1024 := by omega
  rcases (show (128 ≤ kind ∧ ((3 + kind % 3 != 4) = true)) ∨ (128 ≤ kind ∧ 3 + kind % 3 = 4) ∨ (kind < 128 ∧ (kind != 4) = true) ∨ kind = 4 by
    rw [bne_iff_ne, bne_iff_ne]; omega) with ⟨h128, h4⟩ | ⟨h128, h4⟩ | ⟨h128, h4⟩ | h4
  · go_enter Ybaf.func4, Ybaf.ntmps4
    go_wp2_with fail
    refine (msg_any _ _ ra rlen rcap zs _ HR.out hl').mono ?_
    rintro e w1 ⟨rfl, hown, hb⟩
    have HM : Hid (Msg w.heap.size (6 + rlen) (rlen + 6) (msgOf 1 (3 + kind % 3) (zs.take rlen)) w1) := Msg.of_owns hown (by rw [msgOf_length, HR.out.take_length]) (by omega) (by omega)
    have HB : Hid (Below w.heap.size w w1) := hb
    have hs := hb.size
    clear hown hb
    go_wp2_with fail
    refine (decode_kind _ _ _ _ _ _ HM.out h4).mono ?_
    rintro e w2 ⟨T', v', rfl, _, hb2⟩
    have HB2 : Hid (Below w.heap.size w w2) := HB.out.trans (hb2.mono hs)
    clear hb2
    go_wp2
    go_ret
    exact ⟨rfl, HB2.out⟩
  · go_enter Ybaf.func4, Ybaf.ntmps4
    go_wp2_with fail
    refine (msg_any _ _ ra rlen rcap zs _ HR.out hl').mono ?_
    rintro e w1 ⟨rfl, hown, hb⟩
    have HM : Hid (Msg w.heap.size (6 + rlen) (rlen + 6) (msgOf 1 4 (zs.take rlen)) w1) := Msg.of_owns hown (by rw [msgOf_length, HR.out.take_length]) (by omega) (by omega)
    have HG1 : Hid (w1.cell? ⟨0, 0, none⟩ = some (.iface T v)) := by
      show w1.cell? ⟨0, 0, none⟩ = _
      rw [hb.cell (p := ⟨0, 0, none⟩) h00]
      exact HG.out
    have HB : Hid (Below w.heap.size w w1) := hb
    have hs := hb.size
    clear hown hb
    go_wp2_with fail
    refine (decode_answer _ _ _ T v _ _ HM.out HG1.out HR.out.wf_take).mono ?_
    rintro e w2 ⟨⟨s, er, rfl, her⟩, hb2⟩
    have HM2 : Hid (Msg w.heap.size (6 + rlen) (rlen + 6) (msgOf 1 4 (zs.take rlen)) w2) := HM.out.below hb2
    have HB2 : Hid (Below w.heap.size w w2) := HB.out.trans (hb2.mono hs)
    clear hb2
    rcases her with rfl | ⟨T', v', rfl⟩
    · go_wp2_with fail
      refine (kindOf_ok w.heap.size (6 + rlen) (rlen + 6) 4 _ (by omega) (by omega) (by omega) (HM2.out.cell 0 (by omega)) (HM2.out.cell 1 (by omega)) (HM2.out.cell 2 (by omega)) (HM2.out.cell 3 (by omega)) (HM2.out.cell 4 (by omega)) (HM2.out.cell 5 (by omega))).mono ?_
      rintro e w3 ⟨rfl, rfl⟩
      go_wp2
      go_ret
      exact ⟨rfl, HB2.out⟩
    · go_wp2
      go_ret
      exact ⟨rfl, HB2.out⟩
  · go_enter Ybaf.func4, Ybaf.ntmps4
    go_wp2_with fail
    refine (msg_any _ _ ra rlen rcap zs _ HR.out hl').mono ?_
    rintro e w1 ⟨rfl, hown, hb⟩
    have HM : Hid (Msg w.heap.size (6 + rlen) (rlen + 6) (msgOf 1 kind (zs.take rlen)) w1) := Msg.of_owns hown (by rw [msgOf_length, HR.out.take_length]) (by omega) (by omega)
    have HB : Hid (Below w.heap.size w w1) := hb
    have hs := hb.size
    clear hown hb
    go_wp2_with fail
    refine (decode_kind _ _ _ _ _ _ HM.out h4).mono ?_
    rintro e w2 ⟨T', v', rfl, _, hb2⟩
    have HB2 : Hid (Below w.heap.size w w2) := HB.out.trans (hb2.mono hs)
    clear hb2
    go_wp2
    go_ret
    exact ⟨rfl, HB2.out⟩
  · subst h4
    go_enter Ybaf.func4, Ybaf.ntmps4
    go_wp2_with fail
    refine (msg_any _ _ ra rlen rcap zs _ HR.out hl').mono ?_
    rintro e w1 ⟨rfl, hown, hb⟩
    have HM : Hid (Msg w.heap.size (6 + rlen) (rlen + 6) (msgOf 1 4 (zs.take rlen)) w1) := Msg.of_owns hown (by rw [msgOf_length, HR.out.take_length]) (by omega) (by omega)
    have HG1 : Hid (w1.cell? ⟨0, 0, none⟩ = some (.iface T v)) := by
      show w1.cell? ⟨0, 0, none⟩ = _
      rw [hb.cell (p := ⟨0, 0, none⟩) h00]
      exact HG.out
    have HB : Hid (Below w.heap.size w w1) := hb
    have hs := hb.size
    clear hown hb
    go_wp2_with fail
    refine (decode_answer _ _ _ T v _ _ HM.out HG1.out HR.out.wf_take).mono ?_
    rintro e w2 ⟨⟨s, er, rfl, her⟩, hb2⟩
    have HM2 : Hid (Msg w.heap.size (6 + rlen) (rlen + 6) (msgOf 1 4 (zs.take rlen)) w2) := HM.out.below hb2
    have HB2 : Hid (Below w.heap.size w w2) := HB.out.trans (hb2.mono hs)
    clear hb2
    rcases her with rfl | ⟨T', v', rfl⟩
    · go_wp2_with fail
      refine (kindOf_ok w.heap.size (6 + rlen) (rlen + 6) 4 _ (by omega) (by omega) (by omega) (HM2.out.cell 0 (by omega)) (HM2.out.cell 1 (by omega)) (HM2.out.cell 2 (by omega)) (HM2.out.cell 3 (by omega)) (HM2.out.cell 4 (by omega)) (HM2.out.cell 5 (by omega))).mono ?_
      rintro e w3 ⟨rfl, rfl⟩
      go_wp2
      go_ret
      exact ⟨rfl, HB2.out⟩
    · go_wp2
      go_ret
      exact ⟨rfl, HB2.out⟩
end Go.Proofs.YbulkapsyFmt
