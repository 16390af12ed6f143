/-
  (f15) Identity.Answer.
-/
import Derived.Test.YbulkaptmDoorAnsA
import Derived.Test.YbulkaptmDoorAnsB
import Derived.Test.YbulkaptmDoorAnsC
namespace Go.Proofs.YbulkaptmDoor
open Go.RowKit
set_option linter.unusedVariables false
set_option linter.unusedSimpArgs false
set_option maxRecDepth 100000

/-- What Answer makes. -/
def AnswerPost (w : World) (fl cmd app hop ete : Int) (pre : List Av) (e : Ending) (w' : World) : Prop :=
  ∃ p sv a1 a2, e = .returned (.pointer (some ⟨p, 0, none⟩)) ∧ MsgSt w' w.heap.size p (bits .and .u8 fl 64) cmd app hop ete sv (pre ++ [a1, a2]) ∧ a1.code = 264 ∧ a2.code = 296 ∧ w.grownBy w' none

set_option maxHeartbeats 3200000 in
/-- (f15) Answer. -/
theorem answer_any (host realm : ByteArray) (m : Nat) (fl cmd app hop ete : Int) (sq : Value) (sa : Av) (ok : Bool) (w : World) (nm : Nat → ByteArray) (z : Addr)
    (pre : List Av) (hpre : Hid (pre = if ok then [sa] else []))
    (hm : w.heap[m]? = some (.cells #[.int .u8 fl, .int .u32 cmd, .int .u32 app, .int .u32 hop, .int .u32 ete, sq] 37 (0, 0))) (hG : Globs w nm z)
    (hfind : ∀ w', w.grownBy w' none → Calls Ybad.prog 24 #[sq, .agg #[.string (nm 6), .int .u32 263, .int .u32 0, .bool true, .int .u8 1]] w' fun e w'' => e = .returned (.tuple #[.agg #[.int .u32 sa.code, .int .u8 sa.flags, .int .u32 sa.vendor, .slice sa.da sa.dl sa.dc], .bool ok]) ∧ w'.grownBy w'' none) :
    Calls Ybad.prog 15 #[.agg #[.string host, .string realm], .pointer (some ⟨m, 0, none⟩)] w (AnswerPost w fl cmd app hop ete pre) := by
  have HM : Hid (w.heap[m]? = some (.cells #[.int .u8 fl, .int .u32 cmd, .int .u32 app, .int .u32 hop, .int .u32 ete, sq] 37 (0, 0))) := hm
  have HF : Hid (∀ w', w.grownBy w' none → Calls Ybad.prog 24 #[sq, .agg #[.string (nm 6), .int .u32 263, .int .u32 0, .bool true, .int .u8 1]] w' fun e w'' => e = .returned (.tuple #[.agg #[.int .u32 sa.code, .int .u8 sa.flags, .int .u32 sa.vendor, .slice sa.da sa.dl sa.dc], .bool ok]) ∧ w'.grownBy w'' none) := hfind
  have GL : Hid (Globs w nm z) := hG
  clear hm hG hfind
  go_enter Ybad.func15, Ybad.ntmps15
  go_wp2_with fail
  obtain ⟨W, hW⟩ : ∃ W, W = w.alloc (.cells #[.string host, .string realm] 58) := ⟨_, rfl⟩
  rw [← hW]
  have G0 : Hid (w.grownBy W none) := by show w.grownBy W none; rw [hW]; exact World.grownBy_alloc _ _ _
  have K0 : Hid (W.heap[w.heap.size]? = some (.cells #[.string host, .string realm] 58 (0, 0))) := by show W.heap[w.heap.size]? = _; rw [hW]; exact heap_alloc_new _ _
  have hWs : Hid (W.heap.size = w.heap.size + 1) := by show W.heap.size = w.heap.size + 1; rw [hW]; simp
  clear hW
  refine ans_r1 (sq := sq) (hm := gblockN G0.out HM.out) (hQ := ?_)
  intros
  rename_i w1 hg1 hb1
  have G1 : Hid (w.grownBy w1 none) := gtrans G0.out hg1
  have K1 : Hid (w1.heap[w.heap.size]? = _) := gblockN hg1 K0.out
  have M1 : Hid (w1.heap[m]? = _) := gblockN G1.out HM.out
  have P1 : Hid (w1.heap[W.heap.size]? = some (.cells #[.int .u8 (bits .and .u8 fl 64), .int .u32 cmd, .int .u32 app, .int .u32 hop, .int .u32 ete, .slice none 0 0] 37 (0, 0))) := hb1
  clear hg1 hb1
  go_wp2_with fail
  refine ans_r2 (sq := sq) (sa := sa) (ok := ok) (nm := nm) (z := z) (hm := M1.out) (hG := GL.out.grow G1.out) (hfind := fun w' hg => HF.out w' (gtrans G1.out hg)) (hQ := ?_)
  intros
  rename_i w2 q hg2 hq hqb
  have G2 : Hid (w.grownBy w2 none) := gtrans G1.out hg2
  have K2 : Hid (w2.heap[w.heap.size]? = _) := gblockN hg2 K1.out
  have P2 : Hid (w2.heap[W.heap.size]? = _) := gblockN hg2 P1.out
  have HQB : Hid (w2.heap[q]? = some (.cells #[.int .u32 sa.code, .int .u8 sa.flags, .int .u32 sa.vendor, .slice sa.da sa.dl sa.dc] 41 (0, 0))) := hqb
  have MS2 : Hid (MsgSt w2 w.heap.size W.heap.size (bits .and .u8 fl 64) cmd app hop ete (.slice none 0 0) []) := ⟨P2.out, ⟨rfl, .inl ⟨rfl, rfl⟩⟩, by have := hWs.out; omega, G2.out.size⟩
  have hB : 17 ≤ w.heap.size := GL.out.big
  clear hg2 hqb hq M1 K1 P1
  cases ok with
  | true =>
    go_wp2_with fail
    refine ans_r4 (hms := MS2.out) (nm := nm) (z := z) (hG := GL.out.grow G2.out) (hB := hB) (hn := by simp) (sa := sa) (hq := HQB.out) (hqn := by intro k hk; cases hk) (hQ := ?_)
    intros
    rename_i w3 hpost
    obtain ⟨sv3, ms3, kp3, bl3⟩ := hpost
    have G3 : Hid (w.grownBy w3 none) := gofBelow (gb G2.out (Nat.le_refl _) bl3)
    have MS3 : Hid (MsgSt w3 w.heap.size W.heap.size (bits .and .u8 fl 64) cmd app hop ete sv3 ([] ++ [sa])) := ms3
    have K3 : Hid (w3.heap[w.heap.size]? = _) := kp3.blk _ _ _ _ K2.out (by decide) (by have := hWs.out; omega)
    clear ms3 kp3 bl3
    go_wp2_with fail
    refine ans_r5 (hms := MS3.out) (nm := nm) (z := z) (hG := GL.out.grow G3.out) (hB := hB) (hn := by simp) (hid := K3.out) (hQ := ?_)
    intros
    rename_i w4 a1 a2 h1 h2 hpost
    obtain ⟨sv4, ms4, kp4, bl4⟩ := hpost
    have G4 : Hid (w.grownBy w4 none) := gofBelow (gb G3.out (Nat.le_refl _) bl4)
    have MS4 : Hid (MsgSt w4 w.heap.size W.heap.size (bits .and .u8 fl 64) cmd app hop ete sv4 ([] ++ [sa] ++ [a1, a2])) := ms4
    clear ms4 kp4 bl4
    go_wp2
    go_ret
    exact ⟨_, _, a1, a2, rfl, by rw [hpre.out]; simpa using MS4.out, h1, h2, G4.out⟩
  | false =>
    go_wp2_with fail
    refine ans_r5 (hms := MS2.out) (nm := nm) (z := z) (hG := GL.out.grow G2.out) (hB := hB) (hn := by simp) (hid := K2.out) (hQ := ?_)
    intros
    rename_i w4 a1 a2 h1 h2 hpost
    obtain ⟨sv4, ms4, kp4, bl4⟩ := hpost
    have G4 : Hid (w.grownBy w4 none) := gofBelow (gb G2.out (Nat.le_refl _) bl4)
    have MS4 : Hid (MsgSt w4 w.heap.size W.heap.size (bits .and .u8 fl 64) cmd app hop ete sv4 ([] ++ [a1, a2])) := ms4
    clear ms4 kp4 bl4
    go_wp2
    go_ret
    exact ⟨_, _, a1, a2, rfl, by rw [hpre.out]; simpa using MS4.out, h1, h2, G4.out⟩
end Go.Proofs.YbulkaptmDoor
