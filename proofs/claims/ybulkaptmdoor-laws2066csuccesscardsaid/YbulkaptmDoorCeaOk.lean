/-
  (f6) conn.cea without an error.
-/
import Derived.Test.YbulkaptmDoorCea
import Derived.Test.YbulkaptmDoorCeaB
import Derived.Test.YbulkaptmDoorCeaC
import Derived.Test.YbulkaptmDoorApps
namespace Go.Proofs.YbulkaptmDoor
open Go.RowKit
set_option linter.unusedVariables false
set_option linter.unusedSimpArgs false
set_option maxRecDepth 100000

theorem SrvM.keep {w w' : World} {p : Nat} {cp : Array Value} {fp : Nat × Nat} {c s : Nat} {host realm prod : ByteArray} {st lo port : Int} {z : Addr} {apps : Value} (h : SrvM w c s host realm prod st lo port z apps) (hp : w.heap[p]? = some (.cells cp 37 fp)) (hg : Keep p w w') : SrvM w' c s host realm prod st lo port z apps :=
  h.of_blocks (fun k cs t f hk ht => hg.blk k cs t f hk (by rcases ht with rfl | rfl <;> decide) (by intro e; subst e; rw [hk] at hp; cases hp; rcases ht with ht | ht <;> cases ht))

/-- What cea makes, given no error. -/
def CeaOk (w : World) (fl cmd app hop ete : Int) (pre : List Av) (st : Int) (ss : List Sp) (e : Ending) (w' : World) : Prop :=
  ∃ p sv a1 a2 b1 c1 c2 c3 c4 news, e = .returned (.pointer (some ⟨p, 0, none⟩)) ∧
    MsgSt w' w.heap.size p (bits .and .u8 fl 64) cmd app hop ete sv (pre ++ a1 :: a2 :: b1 :: c1 :: c2 :: c3 :: c4 :: news) ∧
    a1.code = 264 ∧ a2.code = 296 ∧ b1.code = 268 ∧ b1.dl = 4 ∧ U8s w' b1.da 4 (be32 2001) ∧
    c1.code = 257 ∧ c2.code = 266 ∧ c2.dl = 4 ∧ U8s w' c2.da 4 (be32 0) ∧ c3.code = 269 ∧ c4.code = 278 ∧ c4.dl = 4 ∧ U8s w' c4.da 4 (be32 st) ∧ AvsOk w' news ss ∧ w.grownBy w' none

set_option maxHeartbeats 3200000 in
/-- (f6) cea, given no error. -/
theorem cea_ok (c s m n Ba : Nat) (host realm prod : ByteArray) (st lo port : Int) (apps : Value) (fl cmd app hop ete : Int) (sq : Value) (sa : Av) (ok : Bool) (pre : List Av) (ids vends : List Int) (w : World) (nm : Nat → ByteArray) (z : Addr)
    (hpre : Hid (pre = if ok then [sa] else [])) (hpl : pre.length ≤ 1)
    (hsrv : SrvM w c s host realm prod st lo port z apps) (hl0 : 0 ≤ lo) (hl1 : lo < 18446744073709551616) (hst0 : 0 ≤ st) (hst1 : st < 4294967296)
    (hm : w.heap[m]? = some (.cells #[.int .u8 fl, .int .u32 cmd, .int .u32 app, .int .u32 hop, .int .u32 ete, sq] 37 (0, 0))) (hG : Globs w nm z)
    (hfind : ∀ w', w.grownBy w' none → Calls Ybad.prog 24 #[sq, .agg #[.string (nm 6), .int .u32 263, .int .u32 0, .bool true, .int .u8 1]] w' fun e w'' => e = .returned (.tuple #[.agg #[.int .u32 sa.code, .int .u8 sa.flags, .int .u32 sa.vendor, .slice sa.da sa.dl sa.dc], .bool ok]) ∧ w'.grownBy w'' none)
    (hap : w.ownsRow Ba 55 2 apps n (appCells ids vends n)) (hn : n ≤ 1024) (hI : ∀ k, (Lit.int .u32 (ids.getD k 0)).wf = true) (hV : ∀ k, (Lit.int .u32 (vends.getD k 0)).wf = true) (hs17 : 17 ≤ s) :
    Calls Ybad.prog 6 #[.pointer (some ⟨c, 0, none⟩), .pointer (some ⟨m, 0, none⟩), .nilIface] w (CeaOk w fl cmd app hop ete pre st (sp1 vends n ++ sp2 ids vends n)) := by
  have HSR : Hid (SrvM w c s host realm prod st lo port z apps) := hsrv
  have HM : Hid (w.heap[m]? = some (.cells #[.int .u8 fl, .int .u32 cmd, .int .u32 app, .int .u32 hop, .int .u32 ete, sq] 37 (0, 0))) := hm
  have GL : Hid (Globs w nm z) := hG
  have HF : Hid (∀ w', w.grownBy w' none → Calls Ybad.prog 24 #[sq, .agg #[.string (nm 6), .int .u32 263, .int .u32 0, .bool true, .int .u8 1]] w' fun e w'' => e = .returned (.tuple #[.agg #[.int .u32 sa.code, .int .u8 sa.flags, .int .u32 sa.vendor, .slice sa.da sa.dl sa.dc], .bool ok]) ∧ w'.grownBy w'' none) := hfind
  have HPL : Hid (pre.length ≤ 1) := hpl
  have HAP : Hid (w.ownsRow Ba 55 2 apps n (appCells ids vends n) ∧ n ≤ 1024 ∧ (∀ k, (Lit.int .u32 (ids.getD k 0)).wf = true) ∧ (∀ k, (Lit.int .u32 (vends.getD k 0)).wf = true) ∧ 17 ≤ s) := ⟨hap, hn, hI, hV, hs17⟩
  have k0 := hsrv.srv.c0
  have k1 := hsrv.srv.s0
  have k2 := hsrv.srv.s1
  clear hsrv hm hG hfind hpl hap hn hI hV hs17
  go_enter Ybad.func6, Ybad.ntmps6
  go_wp2_with fail
  refine (answer_any host realm m fl cmd app hop ete sq sa ok w nm z pre hpre HM.out GL.out HF.out).mono ?_
  rintro e w1 ⟨p, sv1, a1, a2, rfl, ms1, ha1, ha2, hg1⟩
  have MS1 : Hid (MsgSt w1 w.heap.size p (bits .and .u8 fl 64) cmd app hop ete sv1 (pre ++ [a1, a2])) := ms1
  have G1 : Hid (w.grownBy w1 none) := hg1
  clear ms1 hg1 k0 k1 k2
  go_wp2_with fail
  refine cea_r4 (hms := MS1.out) (nm := nm) (z := z) (hG := GL.out.grow G1.out) (hB := GL.out.big) (hn := by have := HPL.out; simp; omega) (hQ := ?_)
  intros
  rename_i w2 b1 hb1 hb2 hb3 hpost
  obtain ⟨sv2, ms2, kp2, bl2⟩ := hpost
  have MS2 : Hid (MsgSt w2 w.heap.size p (bits .and .u8 fl 64) cmd app hop ete sv2 (pre ++ [a1, a2] ++ [b1])) := ms2
  have BL2 : Hid (Below w.heap.size w w2) := gb G1.out (Nat.le_refl _) bl2
  have SR2 : Hid (SrvM w2 c s host realm prod st lo port z apps) := (HSR.out.grow G1.out).keep MS1.out.box kp2
  have HB2 : Hid (b1.code = 268 ∧ b1.dl = 4 ∧ U8s w2 b1.da 4 (be32 2001)) := ⟨hb1, hb2, hb3⟩
  clear ms2 kp2 bl2 hb1 hb2 hb3
  go_wp2_with fail
  refine cea_r5 (hms := MS2.out) (nm := nm) (z := z) (hG := GL.out.msg GL.out.big BL2.out) (hB := GL.out.big) (hn := by have := HPL.out; simp; omega) (hsrv := SR2.out.srv) (hl0 := hl0) (hl1 := hl1) (hst0 := hst0) (hst1 := hst1) (hQ := ?_)
  intros
  rename_i w3 c1 c2 c3 c4 g1 g2 g3 g4 g5 g6 g7 g8 hpost
  obtain ⟨sv3, ms3, kp3, bl3⟩ := hpost
  have MS3 : Hid (MsgSt w3 w.heap.size p (bits .and .u8 fl 64) cmd app hop ete sv3 (pre ++ [a1, a2] ++ [b1] ++ [c1, c2, c3, c4])) := ms3
  have BL3 : Hid (Below w.heap.size w w3) := bboth BL2.out bl3
  have SR3 : Hid (SrvM w3 c s host realm prod st lo port z apps) := SR2.out.keep MS2.out.box kp3
  have HB3 : Hid (b1.code = 268 ∧ b1.dl = 4 ∧ U8s w3 b1.da 4 (be32 2001)) := ⟨HB2.out.1, HB2.out.2.1, HB2.out.2.2.keep MS2.out.box kp3⟩
  have HC3 : Hid (c1.code = 257 ∧ c2.code = 266 ∧ c2.dl = 4 ∧ U8s w3 c2.da 4 (be32 0) ∧ c3.code = 269 ∧ c4.code = 278 ∧ c4.dl = 4 ∧ U8s w3 c4.da 4 (be32 st)) := ⟨g1, g2, g3, g4, g5, g6, g7, g8⟩
  have AP3 : Hid (w3.ownsRow Ba 55 2 apps n (appCells ids vends n)) := keptN HAP.out.1 (gofBelow BL3.out)
  clear ms3 kp3 bl3 g1 g2 g3 g4 g5 g6 g7 g8
  have HC : Hid (∀ w1, w3.grownBy w1 none → Calls Ybad.prog 21 #[.pointer (some ⟨s, 0, none⟩)] w1 fun e w2 => (∃ sv2 avs2, e = .returned sv2 ∧ w2.ownsRow w1.heap.size 41 4 sv2 avs2.length (flat avs2) ∧ AvsOk w2 avs2 (sp1 vends n ++ sp2 ids vends n)) ∧ w1.grownBy w2 none) := by
    show ∀ w1, w3.grownBy w1 none → Calls Ybad.prog 21 #[.pointer (some ⟨s, 0, none⟩)] w1 fun e w2 => (∃ sv2 avs2, e = .returned sv2 ∧ w2.ownsRow w1.heap.size 41 4 sv2 avs2.length (flat avs2) ∧ AvsOk w2 avs2 (sp1 vends n ++ sp2 ids vends n)) ∧ w1.grownBy w2 none
    intro w' hg
    obtain ⟨_, sc, h1, _, _, _, _, h17, h14⟩ := SR3.out.grow hg
    exact apps_any s n Ba sc apps ids vends nm z w' h1 h14 h17 (keptN AP3.out hg) HAP.out.2.1 HAP.out.2.2.1 HAP.out.2.2.2.1 ((GL.out.msg GL.out.big BL3.out).grow hg) HAP.out.2.2.2.2
  have HCB : Hid (∃ cc, w3.heap[c]? = some (.cells cc 117 (0, 0)) ∧ cc[0]? = some (.pointer (some ⟨s, 0, none⟩))) := by
    show ∃ cc, w3.heap[c]? = some (.cells cc 117 (0, 0)) ∧ cc[0]? = some (.pointer (some ⟨s, 0, none⟩))
    obtain ⟨⟨cc, h1, h2, _⟩, _⟩ := SR3.out
    exact ⟨cc, h1, h2⟩
  have HSL : Hid ((sp1 vends n ++ sp2 ids vends n).length ≤ 100000) := by
    show (sp1 vends n ++ sp2 ids vends n).length ≤ 100000
    rw [List.length_append, sp2_len]
    have := sp1_le vends n
    have := HAP.out.2.1
    omega
  obtain ⟨SS, hSS⟩ : ∃ SS, SS = sp1 vends n ++ sp2 ids vends n := ⟨_, rfl⟩
  rw [← hSS] at HC HSL
  have HSE : Hid (SS = sp1 vends n ++ sp2 ids vends n) := hSS
  clear hSS
  have close : ∀ (w4 : World) (news : List Av) (hA : AvsOk w4 news SS) (hp : AppPost w3 w.heap.size p (bits .and .u8 fl 64) cmd app hop ete (pre ++ [a1, a2] ++ [b1] ++ [c1, c2, c3, c4]) news w4), CeaOk w fl cmd app hop ete pre st SS (.returned (.pointer (some ⟨p, 0, none⟩))) w4 := by
    intro w4 news hA ⟨sv4, ms4, kp4, bl4⟩
    obtain ⟨q1, q2, q3, q4, q5, q6, q7, q8⟩ := HC3.out
    refine ⟨p, sv4, a1, a2, b1, c1, c2, c3, c4, news, rfl, ?_, ha1, ha2, HB3.out.1, HB3.out.2.1, HB3.out.2.2.keep MS3.out.box kp4, q1, q2, q3, q4.keep MS3.out.box kp4, q5, q6, q7, q8.keep MS3.out.box kp4, hA, gofBelow (bboth BL3.out bl4)⟩
    simpa using ms4
  have CLO : Hid (∀ (w4 : World) (news : List Av) (hA : AvsOk w4 news SS) (hp : AppPost w3 w.heap.size p (bits .and .u8 fl 64) cmd app hop ete (pre ++ [a1, a2] ++ [b1] ++ [c1, c2, c3, c4]) news w4), CeaOk w fl cmd app hop ete pre st SS (.returned (.pointer (some ⟨p, 0, none⟩))) w4) := close
  clear close
  go_wp2_with fail
  by_cases hss : SS = []
  · refine cea_r7_none (hms := MS3.out) (hn := by have := HPL.out; simp; omega) (hne := by simp) (hss := hss) (hsl := HSL.out) (hc0 := HCB.out) (hcall := HC.out) (hQ := ?_)
    intros
    rename_i w4 news hA hp
    have FIN : Hid (CeaOk w fl cmd app hop ete pre st SS (.returned (.pointer (some ⟨p, 0, none⟩))) w4) := CLO.out w4 news hA hp
    clear hA hp
    go_wp2
    go_ret
    have fin := FIN.out
    rw [HSE.out] at fin
    exact fin
  · refine cea_r7_some (hms := MS3.out) (hn := by have := HPL.out; simp; omega) (hne := by simp) (hss := hss) (hsl := HSL.out) (hc0 := HCB.out) (hcall := HC.out) (hQ := ?_)
    intros
    rename_i w4 news hA hp
    have FIN : Hid (CeaOk w fl cmd app hop ete pre st SS (.returned (.pointer (some ⟨p, 0, none⟩))) w4) := CLO.out w4 news hA hp
    clear hA hp
    go_wp2
    go_ret
    have fin := FIN.out
    rw [HSE.out] at fin
    exact fin
end Go.Proofs.YbulkaptmDoor
