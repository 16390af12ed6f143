/-
  (f6) conn.cea with an error.
-/
import Derived.Test.YbulkaptmDoorAnswer
import Derived.Test.YbulkaptmDoorFail
import Derived.Test.YbulkaptmDoorCeaA
namespace Go.Proofs.YbulkaptmDoor
open Go.RowKit
set_option linter.unusedVariables false
set_option linter.unusedSimpArgs false
set_option maxRecDepth 100000

/-- What cea makes, given an error. -/
def CeaPost (w : World) (fl cmd app hop ete : Int) (pre : List Av) (r v st : Int) (failed : Bool) (e : Ending) (w' : World) : Prop :=
  ∃ p sv a1 a2 b1 rest c1 c2 c3 c4, e = .returned (.pointer (some ⟨p, 0, none⟩)) ∧
    MsgSt w' w.heap.size p (if v = 0 ∧ r / 1000 = 3 then bits .or .u8 (bits .and .u8 fl 64) 32 else bits .and .u8 fl 64) cmd app hop ete sv (pre ++ a1 :: a2 :: b1 :: (rest ++ [c1, c2, c3, c4])) ∧
    a1.code = 264 ∧ a2.code = 296 ∧ (v ≠ 0 → b1.code = 297) ∧ (v = 0 → b1.code = 268 ∧ b1.dl = 4 ∧ U8s w' b1.da 4 (be32 r)) ∧ (failed = false → rest = []) ∧ (failed = true → ∃ x, rest = [x] ∧ x.code = 279) ∧
    c1.code = 257 ∧ c2.code = 266 ∧ c2.dl = 4 ∧ U8s w' c2.da 4 (be32 0) ∧ c3.code = 269 ∧ c4.code = 278 ∧ c4.dl = 4 ∧ U8s w' c4.da 4 (be32 st) ∧ w.grownBy w' none

set_option maxHeartbeats 3200000 in
/-- (f6) cea, given an error. -/
theorem cea_fail (c s m : Nat) (host realm prod : ByteArray) (st lo port : Int) (apps : Value) (T : TypeId) (ev : Value) (fl cmd app hop ete : Int) (sq : Value) (sa : Av) (ok : Bool) (pre : List Av) (r v : Int) (failed : Bool) (w : World) (nm : Nat → ByteArray) (z : Addr)
    (hpre : Hid (pre = if ok then [sa] else [])) (hpl : pre.length ≤ 1)
    (hsrv : Srv w c s host realm prod st lo port z apps) (hl0 : 0 ≤ lo) (hl1 : lo < 18446744073709551616) (hst0 : 0 ≤ st) (hst1 : st < 4294967296)
    (hm : w.heap[m]? = some (.cells #[.int .u8 fl, .int .u32 cmd, .int .u32 app, .int .u32 hop, .int .u32 ete, sq] 37 (0, 0))) (hG : Globs w nm z)
    (hfind : ∀ w', w.grownBy w' none → Calls Ybad.prog 24 #[sq, .agg #[.string (nm 6), .int .u32 263, .int .u32 0, .bool true, .int .u8 1]] w' fun e w'' => e = .returned (.tuple #[.agg #[.int .u32 sa.code, .int .u8 sa.flags, .int .u32 sa.vendor, .slice sa.da sa.dl sa.dc], .bool ok]) ∧ w'.grownBy w'' none)
    (hfail : ∀ w1 p fl' sv avs, w.grownBy w1 none → MsgSt w1 w.heap.size p fl' cmd app hop ete sv avs → avs.length ≤ 1000 → Calls Ybad.prog 16 #[.pointer (some ⟨p, 0, none⟩), .iface T ev] w1 (FailPost w1 w.heap.size p fl' cmd app hop ete avs r v failed)) :
    Calls Ybad.prog 6 #[.pointer (some ⟨c, 0, none⟩), .pointer (some ⟨m, 0, none⟩), .iface T ev] w (CeaPost w fl cmd app hop ete pre r v st failed) := by
  have HSR : Hid (Srv w c s host realm prod st lo port z apps) := hsrv
  have HM : Hid (w.heap[m]? = some (.cells #[.int .u8 fl, .int .u32 cmd, .int .u32 app, .int .u32 hop, .int .u32 ete, sq] 37 (0, 0))) := hm
  have GL : Hid (Globs w nm z) := hG
  have HF : Hid (∀ w', w.grownBy w' none → Calls Ybad.prog 24 #[sq, .agg #[.string (nm 6), .int .u32 263, .int .u32 0, .bool true, .int .u8 1]] w' fun e w'' => e = .returned (.tuple #[.agg #[.int .u32 sa.code, .int .u8 sa.flags, .int .u32 sa.vendor, .slice sa.da sa.dl sa.dc], .bool ok]) ∧ w'.grownBy w'' none) := hfind
  have HFL : Hid (∀ w1 p fl' sv avs, w.grownBy w1 none → MsgSt w1 w.heap.size p fl' cmd app hop ete sv avs → avs.length ≤ 1000 → Calls Ybad.prog 16 #[.pointer (some ⟨p, 0, none⟩), .iface T ev] w1 (FailPost w1 w.heap.size p fl' cmd app hop ete avs r v failed)) := hfail
  have HPL : Hid (pre.length ≤ 1) := hpl
  have k0 := hsrv.c0
  have k1 := hsrv.s0
  have k2 := hsrv.s1
  clear hsrv hm hG hfind hfail hpl
  go_enter Ybad.func6, Ybad.ntmps6
  go_wp2_with fail
  refine (answer_any host realm m fl cmd app hop ete sq sa ok w nm z pre hpre HM.out GL.out HF.out).mono ?_
  rintro e w1 ⟨p, sv1, a1, a2, rfl, ms1, ha1, ha2, hg1⟩
  have MS1 : Hid (MsgSt w1 w.heap.size p (bits .and .u8 fl 64) cmd app hop ete sv1 (pre ++ [a1, a2])) := ms1
  have G1 : Hid (w.grownBy w1 none) := hg1
  clear ms1 hg1 k0 k1 k2
  go_wp2_with fail
  refine (HFL.out w1 p _ sv1 _ G1.out MS1.out (by have := HPL.out; simp; omega)).mono ?_
  rintro e w2 ⟨rfl, sv2, b1, rest, ms2, hb1, hb2, hr1, hr2, kp2, bl2⟩
  obtain ⟨fl2, hfl2⟩ : ∃ fl2, fl2 = (if v = 0 ∧ r / 1000 = 3 then bits .or .u8 (bits .and .u8 fl 64) 32 else bits .and .u8 fl 64) := ⟨_, rfl⟩
  rw [← hfl2] at ms2
  have HF2 : Hid (fl2 = (if v = 0 ∧ r / 1000 = 3 then bits .or .u8 (bits .and .u8 fl 64) 32 else bits .and .u8 fl 64)) := hfl2
  have MS2 : Hid (MsgSt w2 w.heap.size p fl2 cmd app hop ete sv2 (pre ++ [a1, a2] ++ b1 :: rest)) := ms2
  have BL2 : Hid (Below w.heap.size w w2) := gb G1.out (Nat.le_refl _) bl2
  have SR2 : Hid (Srv w2 c s host realm prod st lo port z apps) := (HSR.out.grow G1.out).keep MS1.out.box kp2
  have HB1 : Hid ((v ≠ 0 → b1.code = 297) ∧ (v = 0 → b1.code = 268 ∧ b1.dl = 4 ∧ U8s w2 b1.da 4 (be32 r)) ∧ (failed = false → rest = []) ∧ (failed = true → ∃ a2, rest = [a2] ∧ a2.code = 279)) := ⟨hb1, hb2, hr1, hr2⟩
  have HRL : Hid (rest.length ≤ 1) := by
    show rest.length ≤ 1
    cases failed with
    | false => rw [hr1 rfl]; simp
    | true => obtain ⟨x, h, _⟩ := hr2 rfl; rw [h]; simp
  clear ms2 kp2 bl2 hb1 hb2 hr1 hr2 hfl2
  go_wp2_with fail
  refine cea_r5 (hms := MS2.out) (nm := nm) (z := z) (hG := GL.out.msg GL.out.big BL2.out) (hB := GL.out.big) (hn := by have := HPL.out; have := HRL.out; simp; omega) (hsrv := SR2.out) (hl0 := hl0) (hl1 := hl1) (hst0 := hst0) (hst1 := hst1) (hQ := ?_)
  intros
  rename_i w3 c1 c2 c3 c4 g1 g2 g3 g4 g5 g6 g7 g8 hpost
  obtain ⟨sv3, ms3, kp3, bl3⟩ := hpost
  have MS3 : Hid (MsgSt w3 w.heap.size p fl2 cmd app hop ete sv3 (pre ++ [a1, a2] ++ b1 :: rest ++ [c1, c2, c3, c4])) := ms3
  have G3 : Hid (w.grownBy w3 none) := gofBelow (bboth BL2.out bl3)
  have HB3 : Hid ((v ≠ 0 → b1.code = 297) ∧ (v = 0 → b1.code = 268 ∧ b1.dl = 4 ∧ U8s w3 b1.da 4 (be32 r)) ∧ (failed = false → rest = []) ∧ (failed = true → ∃ a2, rest = [a2] ∧ a2.code = 279)) :=
    ⟨HB1.out.1, fun h => ⟨(HB1.out.2.1 h).1, (HB1.out.2.1 h).2.1, (HB1.out.2.1 h).2.2.keep MS2.out.box kp3⟩, HB1.out.2.2.1, HB1.out.2.2.2⟩
  have HC3 : Hid (c1.code = 257 ∧ c2.code = 266 ∧ c2.dl = 4 ∧ U8s w3 c2.da 4 (be32 0) ∧ c3.code = 269 ∧ c4.code = 278 ∧ c4.dl = 4 ∧ U8s w3 c4.da 4 (be32 st)) := ⟨g1, g2, g3, g4, g5, g6, g7, g8⟩
  clear ms3 kp3 bl3 g1 g2 g3 g4 g5 g6 g7 g8
  go_wp2
  go_ret
  obtain ⟨q1, q2, q3, q4, q5, q6, q7, q8⟩ := HC3.out
  refine ⟨p, sv3, a1, a2, b1, rest, c1, c2, c3, c4, rfl, ?_, ha1, ha2, HB3.out.1, HB3.out.2.1, HB3.out.2.2.1, HB3.out.2.2.2, q1, q2, q3, q4, q5, q6, q7, q8, G3.out⟩
  rw [← HF2.out]
  have := MS3.out
  simpa using this
end Go.Proofs.YbulkaptmDoor
