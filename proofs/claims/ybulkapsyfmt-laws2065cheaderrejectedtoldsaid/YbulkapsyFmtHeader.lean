/-
  The walk of LawS2065CHeaderRejected.
-/
import Derived.Test.YbulkapsyFmtOnly
import Derived.Test.YbulkapsyFmtIs
namespace Go.Proofs.YbulkapsyFmt
open Go.RowKit
set_option linter.unusedVariables false

theorem Msg.set {b n cap : Nat} {zs : List Int} {w : World} (h : Msg b n cap zs w) (i : Nat) (v : Int) (hi : i < n) : Msg b n cap (zs.set i v) (w.setCell ⟨b, i, none⟩ (.int .u8 v)) where
  len := by rw [List.length_set]; exact h.len
  cell j hj := by
    have hl := h.len
    by_cases e : i = j
    · subst e
      rw [World.cell?_setCell_same _ _ _ (h.cell i hi)]
      simp [List.getD, show i < zs.length by omega]
    · rw [World.cell?_setCell_other _ _ _ _ (by simp), h.cell j hj]
      simp [List.getD, e]
  lt := by have := h.lt; simpa using this
  nc := h.nc
  cm := h.cm

/-- Shorter than a header: "" and errShort. -/
theorem decode_short (ao : Option Addr) (n cap : Nat) (T : TypeId) (v : Value) (w : World) (hn : n < 6) (hg : w.cell? ⟨0, 0, none⟩ = some (.iface T v)) :
    Calls Ybaf.prog 6 #[.slice ao n cap] w fun e w' => ∃ T' v', e = .returned (.tuple #[.string ⟨#[]⟩, .iface T' v']) ∧ (Value.iface T' v' = .iface T v) ∧ Below w.heap.size w w' := by
  have h00 : 0 < w.heap.size := World.block_lt_of_cell? _ _ hg
  refine decode_err _ (fun er => er = .iface T v) w ?_
  show Calls Ybaf.prog 9 #[.slice ao n cap, .int .u8 4] w _
  refine open_err _ 4 (fun er => er = .iface T v) w ?_
  show Calls Ybaf.prog 8 #[.slice ao n cap] _ _
  refine (kindOf_short ao n cap (.iface T v) _ hn ?_ (.inr ⟨_, _, rfl⟩)).mono fun e w' ⟨he, hb⟩ => ⟨T, v, he, rfl, by simpa using hb⟩
  rw [World.cell?_alloc_lt _ _ _ (by exact h00)]
  exact hg

/-- A wrong magic: "" and an error. -/
theorem decode_magic (b n cap : Nat) (zs : List Int) (w : World) (h : Msg b n cap zs w) (hn : 6 ≤ n) (hne : ((strOfNums [zs.getD 0 0, zs.getD 1 0, zs.getD 2 0, zs.getD 3 0]).toList == [66, 76, 83, 84]) = false) :
    Calls Ybaf.prog 6 #[.slice (some ⟨b, 0, none⟩) n cap] w fun e w' => ∃ T v, e = .returned (.tuple #[.string ⟨#[]⟩, .iface T v]) ∧ True ∧ Below w.heap.size w w' := by
  refine decode_err _ (fun _ => True) w ?_
  show Calls Ybaf.prog 9 #[.slice (some ⟨b, 0, none⟩) n cap, .int .u8 4] w _
  refine open_err _ 4 (fun _ => True) w ?_
  show Calls Ybaf.prog 8 #[.slice (some ⟨b, 0, none⟩) n cap] _ _
  have ha := h.alloc (.cells #[.slice none 0 0, .nilIface] 35)
  exact (kindOf_magic b n cap _ _ _ _ _ hn h.nc h.cm (ha.cell 0 (by omega)) (ha.cell 1 (by omega)) (ha.cell 2 (by omega)) (ha.cell 3 (by omega)) hne).mono fun e w' ⟨⟨a, he⟩, hb⟩ => ⟨_, _, he, trivial, by simpa using hb⟩

/-- A wrong version: "" and an error. -/
theorem decode_version (b n cap : Nat) (vv kk : Int) (raw : List Int) (w : World) (h : Msg b n cap (msgOf vv kk raw) w) (hv : (vv != 1) = true) :
    Calls Ybaf.prog 6 #[.slice (some ⟨b, 0, none⟩) n cap] w fun e w' => ∃ T v, e = .returned (.tuple #[.string ⟨#[]⟩, .iface T v]) ∧ True ∧ Below w.heap.size w w' := by
  have hn : 6 ≤ n := by have := h.len; rw [msgOf_length] at this; omega
  refine decode_err _ (fun _ => True) w ?_
  show Calls Ybaf.prog 9 #[.slice (some ⟨b, 0, none⟩) n cap, .int .u8 4] w _
  refine open_err _ 4 (fun _ => True) w ?_
  show Calls Ybaf.prog 8 #[.slice (some ⟨b, 0, none⟩) n cap] _ _
  have ha := h.alloc (.cells #[.slice none 0 0, .nilIface] 35)
  exact (kindOf_version b n cap vv _ hn h.nc h.cm (ha.cell 0 (by omega)) (ha.cell 1 (by omega)) (ha.cell 2 (by omega)) (ha.cell 3 (by omega)) (ha.cell 4 (by omega)) hv).mono fun e w' ⟨⟨a, he⟩, hb⟩ => ⟨_, _, he, trivial, by simpa using hb⟩

set_option maxHeartbeats 3200000 in
theorem header_walk (mode bad : Int) (ra : Option Addr) (rlen rcap : Nat) (zs : List Int) (ae : Addr) (w : World) (hr : IsRow .u8 w ra rlen rcap zs) (hm : (Lit.int .u8 mode).wf = true) (hb : (Lit.int .u8 bad).wf = true)
    (hg : w.cell? ⟨0, 0, none⟩ = some (.iface 61 (.pointer (some ae)))) :
    Calls Ybaf.prog 3 #[.int .u8 mode, .int .u8 bad, .slice ra rlen rcap] w fun e w' => e = .returned (.bool true) ∧ Below w.heap.size w w' := by
  have HR : Hid (IsRow .u8 w ra rlen rcap zs) := hr
  have HG : Hid (w.cell? ⟨0, 0, none⟩ = some (.iface 61 (.pointer (some ae)))) := hg
  have h00 : 0 < w.heap.size := World.block_lt_of_cell? _ _ hg
  have hmb := bounds_u8 hm
  have hm0 := hmb.1
  have hm1 := hmb.2
  have hbb := bounds_u8 hb
  have hb0 := hbb.1
  have hb1 := hbb.2
  clear hr hg hmb hm hbb hb
  by_cases hl : (1024 : Int) < rlen
  · go_enter Ybaf.func3, Ybaf.ntmps3
    go_wp2
    go_ret
    exact ⟨rfl, Below.refl _ _⟩
  have hl' : rlen ≤ 1024 := by omega
  rcases (show mode % 4 = 0 ∨ mode % 4 = 1 ∨ mode % 4 = 2 ∨ mode % 4 = 3 by omega) with hs | hs | hs | hs
  · go_enter Ybaf.func3, Ybaf.ntmps3
    go_wp2_with fail
    refine (msg_any _ _ ra rlen rcap zs _ HR.out hl').mono ?_
    rintro e w1 ⟨rfl, hown, hb⟩
    have c00 : w1.cell? ⟨0, 0, none⟩ = some (.iface 61 (.pointer (some ae))) := by
      rw [hb.cell (p := ⟨0, 0, none⟩) h00]
      exact HG.out
    have HB : Hid (Below w.heap.size w w1) := hb
    have hs1 := hb.size
    clear hown hb
    go_wp2_with fail
    refine (decode_short _ _ _ 61 (.pointer (some ae)) _ (by omega) c00).mono ?_
    rintro e w2 ⟨T', v', rfl, he, hb2⟩
    cases he
    have c00' : w2.cell? ⟨0, 0, none⟩ = some (.iface 61 (.pointer (some ae))) := by
      rw [hb2.cell (p := ⟨0, 0, none⟩) (by show 0 < _; omega)]
      exact c00
    have HB2 : Hid (Below w.heap.size w w2) := HB.out.trans (hb2.mono hs1)
    clear hb2 c00
    go_wp2_with fail
    refine (is_same ae _).mono ?_
    rintro e w3 ⟨rfl, rfl⟩
    go_wp2
    go_ret
    exact ⟨rfl, HB2.out⟩
  · rcases (show bad % 4 = 0 ∨ bad % 4 = 1 ∨ bad % 4 = 2 ∨ bad % 4 = 3 by omega) with hi | hi | hi | hi
    · go_enter Ybaf.func3, Ybaf.ntmps3
      go_wp2_with fail
      refine (msg_any _ _ ra rlen rcap zs _ HR.out hl').mono ?_
      rintro e w1 ⟨rfl, hown, hb⟩
      have HM : Hid (Msg w.heap.size (6 + rlen) (rlen + 6) (msgOf 1 4 (zs.take rlen)) w1) := Msg.of_owns hown (by rw [msgOf_length, HR.out.take_length]) (by omega) (by omega)
      have hfz := hown.frozenAt
      have HB : Hid (Below w.heap.size w w1) := hb
      have hs1 := hb.size
      clear hown hb
      have c0 := HM.out.cell 0 (by omega)
      have HM2 : Hid (Msg w.heap.size (6 + rlen) (rlen + 6) ((msgOf 1 4 (zs.take rlen)).set 0 98) (w1.setCell ⟨w.heap.size, 0, none⟩ (.int .u8 98))) := HM.out.set 0 98 (by omega)
      have c : w1.cell? ⟨w.heap.size, 0, none⟩ = some (.int .u8 66) := c0
      have hx : bits BinOp.xor IntKind.u8 66 32 = 98 := by decide
      clear c0
      go_wp2_with fail
      refine (decode_magic _ _ _ _ _ HM2.out (by omega) ?hne0).mono ?_
      case hne0 => exact (show ((strOfNums [98, 76, 83, 84]).toList == [66, 76, 83, 84]) = false by decide +kernel)
      rintro e w2 ⟨T', v', rfl, _, hb2⟩
      have HB2 : Hid (Below w.heap.size w w2) := (HB.out.setCell (p := ⟨w.heap.size, 0, none⟩) (Nat.le_refl _) _).trans (hb2.mono (by simpa using hs1))
      clear hb2
      go_wp2
      go_ret
      exact ⟨rfl, HB2.out⟩
    · go_enter Ybaf.func3, Ybaf.ntmps3
      go_wp2_with fail
      refine (msg_any _ _ ra rlen rcap zs _ HR.out hl').mono ?_
      rintro e w1 ⟨rfl, hown, hb⟩
      have HM : Hid (Msg w.heap.size (6 + rlen) (rlen + 6) (msgOf 1 4 (zs.take rlen)) w1) := Msg.of_owns hown (by rw [msgOf_length, HR.out.take_length]) (by omega) (by omega)
      have hfz := hown.frozenAt
      have HB : Hid (Below w.heap.size w w1) := hb
      have hs1 := hb.size
      clear hown hb
      have c1 := HM.out.cell 1 (by omega)
      have HM2 : Hid (Msg w.heap.size (6 + rlen) (rlen + 6) ((msgOf 1 4 (zs.take rlen)).set 1 108) (w1.setCell ⟨w.heap.size, 1, none⟩ (.int .u8 108))) := HM.out.set 1 108 (by omega)
      have c : w1.cell? ⟨w.heap.size, 1, none⟩ = some (.int .u8 76) := c1
      have hx : bits BinOp.xor IntKind.u8 76 32 = 108 := by decide
      clear c1
      go_wp2_with fail
      refine (decode_magic _ _ _ _ _ HM2.out (by omega) ?hne1).mono ?_
      case hne1 => exact (show ((strOfNums [66, 108, 83, 84]).toList == [66, 76, 83, 84]) = false by decide +kernel)
      rintro e w2 ⟨T', v', rfl, _, hb2⟩
      have HB2 : Hid (Below w.heap.size w w2) := (HB.out.setCell (p := ⟨w.heap.size, 1, none⟩) (Nat.le_refl _) _).trans (hb2.mono (by simpa using hs1))
      clear hb2
      go_wp2
      go_ret
      exact ⟨rfl, HB2.out⟩
    · go_enter Ybaf.func3, Ybaf.ntmps3
      go_wp2_with fail
      refine (msg_any _ _ ra rlen rcap zs _ HR.out hl').mono ?_
      rintro e w1 ⟨rfl, hown, hb⟩
      have HM : Hid (Msg w.heap.size (6 + rlen) (rlen + 6) (msgOf 1 4 (zs.take rlen)) w1) := Msg.of_owns hown (by rw [msgOf_length, HR.out.take_length]) (by omega) (by omega)
      have hfz := hown.frozenAt
      have HB : Hid (Below w.heap.size w w1) := hb
      have hs1 := hb.size
      clear hown hb
      have c2 := HM.out.cell 2 (by omega)
      have HM2 : Hid (Msg w.heap.size (6 + rlen) (rlen + 6) ((msgOf 1 4 (zs.take rlen)).set 2 115) (w1.setCell ⟨w.heap.size, 2, none⟩ (.int .u8 115))) := HM.out.set 2 115 (by omega)
      have c : w1.cell? ⟨w.heap.size, 2, none⟩ = some (.int .u8 83) := c2
      have hx : bits BinOp.xor IntKind.u8 83 32 = 115 := by decide
      clear c2
      go_wp2_with fail
      refine (decode_magic _ _ _ _ _ HM2.out (by omega) ?hne2).mono ?_
      case hne2 => exact (show ((strOfNums [66, 76, 115, 84]).toList == [66, 76, 83, 84]) = false by decide +kernel)
      rintro e w2 ⟨T', v', rfl, _, hb2⟩
      have HB2 : Hid (Below w.heap.size w w2) := (HB.out.setCell (p := ⟨w.heap.size, 2, none⟩) (Nat.le_refl _) _).trans (hb2.mono (by simpa using hs1))
      clear hb2
      go_wp2
      go_ret
      exact ⟨rfl, HB2.out⟩
    · go_enter Ybaf.func3, Ybaf.ntmps3
      go_wp2_with fail
      refine (msg_any _ _ ra rlen rcap zs _ HR.out hl').mono ?_
      rintro e w1 ⟨rfl, hown, hb⟩
      have HM : Hid (Msg w.heap.size (6 + rlen) (rlen + 6) (msgOf 1 4 (zs.take rlen)) w1) := Msg.of_owns hown (by rw [msgOf_length, HR.out.take_length]) (by omega) (by omega)
      have hfz := hown.frozenAt
      have HB : Hid (Below w.heap.size w w1) := hb
      have hs1 := hb.size
      clear hown hb
      have c3 := HM.out.cell 3 (by omega)
      have HM2 : Hid (Msg w.heap.size (6 + rlen) (rlen + 6) ((msgOf 1 4 (zs.take rlen)).set 3 116) (w1.setCell ⟨w.heap.size, 3, none⟩ (.int .u8 116))) := HM.out.set 3 116 (by omega)
      have c : w1.cell? ⟨w.heap.size, 3, none⟩ = some (.int .u8 84) := c3
      have hx : bits BinOp.xor IntKind.u8 84 32 = 116 := by decide
      clear c3
      go_wp2_with fail
      refine (decode_magic _ _ _ _ _ HM2.out (by omega) ?hne3).mono ?_
      case hne3 => exact (show ((strOfNums [66, 76, 83, 116]).toList == [66, 76, 83, 84]) = false by decide +kernel)
      rintro e w2 ⟨T', v', rfl, _, hb2⟩
      have HB2 : Hid (Below w.heap.size w w2) := (HB.out.setCell (p := ⟨w.heap.size, 3, none⟩) (Nat.le_refl _) _).trans (hb2.mono (by simpa using hs1))
      clear hb2
      go_wp2
      go_ret
      exact ⟨rfl, HB2.out⟩
  · rcases (show bad = 1 ∨ (bad != 1) = true by rw [bne_iff_ne]; omega) with hv | hv
    · subst hv
      go_enter Ybaf.func3, Ybaf.ntmps3
      go_wp2_with fail
      refine (msg_any _ _ ra rlen rcap zs _ HR.out hl').mono ?_
      rintro e w1 ⟨rfl, hown, hb⟩
      have HM : Hid (Msg w.heap.size (6 + rlen) (rlen + 6) (msgOf 1 4 (zs.take rlen)) w1) := Msg.of_owns hown (by rw [msgOf_length, HR.out.take_length]) (by omega) (by omega)
      have hfz := hown.frozenAt
      have HB : Hid (Below w.heap.size w w1) := hb
      have hs1 := hb.size
      clear hown hb
      have c : w1.cell? ⟨w.heap.size, 4, none⟩ = some (.int .u8 1) := HM.out.cell 4 (by omega)
      have HM2 : Hid (Msg w.heap.size (6 + rlen) (rlen + 6) (msgOf 2 4 (zs.take rlen)) (w1.setCell ⟨w.heap.size, 4, none⟩ (.int .u8 2))) := HM.out.set 4 2 (by omega)
      go_wp2_with fail
      refine (decode_version _ _ _ _ _ _ _ HM2.out (by decide)).mono ?_
      rintro e w2 ⟨T', v', rfl, _, hb2⟩
      have HB2 : Hid (Below w.heap.size w w2) := (HB.out.setCell (p := ⟨w.heap.size, 4, none⟩) (Nat.le_refl _) _).trans (hb2.mono (by simpa using hs1))
      clear hb2
      go_wp2
      go_ret
      exact ⟨rfl, HB2.out⟩
    · go_enter Ybaf.func3, Ybaf.ntmps3
      go_wp2_with fail
      refine (msg_any _ _ ra rlen rcap zs _ HR.out hl').mono ?_
      rintro e w1 ⟨rfl, hown, hb⟩
      have HM : Hid (Msg w.heap.size (6 + rlen) (rlen + 6) (msgOf 1 4 (zs.take rlen)) w1) := Msg.of_owns hown (by rw [msgOf_length, HR.out.take_length]) (by omega) (by omega)
      have hfz := hown.frozenAt
      have HB : Hid (Below w.heap.size w w1) := hb
      have hs1 := hb.size
      clear hown hb
      have c : w1.cell? ⟨w.heap.size, 4, none⟩ = some (.int .u8 1) := HM.out.cell 4 (by omega)
      have HM2 : Hid (Msg w.heap.size (6 + rlen) (rlen + 6) (msgOf bad 4 (zs.take rlen)) (w1.setCell ⟨w.heap.size, 4, none⟩ (.int .u8 bad))) := HM.out.set 4 bad (by omega)
      go_wp2_with fail
      refine (decode_version _ _ _ _ _ _ _ HM2.out hv).mono ?_
      rintro e w2 ⟨T', v', rfl, _, hb2⟩
      have HB2 : Hid (Below w.heap.size w w2) := (HB.out.setCell (p := ⟨w.heap.size, 4, none⟩) (Nat.le_refl _) _).trans (hb2.mono (by simpa using hs1))
      clear hb2
      go_wp2
      go_ret
      exact ⟨rfl, HB2.out⟩
  · rcases (show bad = 4 ∨ (bad != 4) = true by rw [bne_iff_ne]; omega) with hv | hv
    · subst hv
      go_enter Ybaf.func3, Ybaf.ntmps3
      go_wp2_with fail
      refine (msg_any _ _ ra rlen rcap zs _ HR.out hl').mono ?_
      rintro e w1 ⟨rfl, hown, hb⟩
      have HM : Hid (Msg w.heap.size (6 + rlen) (rlen + 6) (msgOf 1 4 (zs.take rlen)) w1) := Msg.of_owns hown (by rw [msgOf_length, HR.out.take_length]) (by omega) (by omega)
      have hfz := hown.frozenAt
      have HB : Hid (Below w.heap.size w w1) := hb
      have hs1 := hb.size
      clear hown hb
      have c : w1.cell? ⟨w.heap.size, 5, none⟩ = some (.int .u8 4) := HM.out.cell 5 (by omega)
      have HM2 : Hid (Msg w.heap.size (6 + rlen) (rlen + 6) (msgOf 1 5 (zs.take rlen)) (w1.setCell ⟨w.heap.size, 5, none⟩ (.int .u8 5))) := HM.out.set 5 5 (by omega)
      go_wp2_with fail
      refine (decode_kind _ _ _ _ _ _ HM2.out (by decide)).mono ?_
      rintro e w2 ⟨T', v', rfl, _, hb2⟩
      have HB2 : Hid (Below w.heap.size w w2) := (HB.out.setCell (p := ⟨w.heap.size, 5, none⟩) (Nat.le_refl _) _).trans (hb2.mono (by simpa using hs1))
      clear hb2
      go_wp2
      go_ret
      exact ⟨rfl, HB2.out⟩
    · go_enter Ybaf.func3, Ybaf.ntmps3
      go_wp2_with fail
      refine (msg_any _ _ ra rlen rcap zs _ HR.out hl').mono ?_
      rintro e w1 ⟨rfl, hown, hb⟩
      have HM : Hid (Msg w.heap.size (6 + rlen) (rlen + 6) (msgOf 1 4 (zs.take rlen)) w1) := Msg.of_owns hown (by rw [msgOf_length, HR.out.take_length]) (by omega) (by omega)
      have hfz := hown.frozenAt
      have HB : Hid (Below w.heap.size w w1) := hb
      have hs1 := hb.size
      clear hown hb
      have c : w1.cell? ⟨w.heap.size, 5, none⟩ = some (.int .u8 4) := HM.out.cell 5 (by omega)
      have HM2 : Hid (Msg w.heap.size (6 + rlen) (rlen + 6) (msgOf 1 bad (zs.take rlen)) (w1.setCell ⟨w.heap.size, 5, none⟩ (.int .u8 bad))) := HM.out.set 5 bad (by omega)
      go_wp2_with fail
      refine (decode_kind _ _ _ _ _ _ HM2.out hv).mono ?_
      rintro e w2 ⟨T', v', rfl, _, hb2⟩
      have HB2 : Hid (Below w.heap.size w w2) := (HB.out.setCell (p := ⟨w.heap.size, 5, none⟩) (Nat.le_refl _) _).trans (hb2.mono (by simpa using hs1))
      clear hb2
      go_wp2
      go_ret
      exact ⟨rfl, HB2.out⟩
end Go.Proofs.YbulkapsyFmt
