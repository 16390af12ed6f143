/-
  (f16) Message.Fail; (f12) errors.New.
-/
import Derived.Test.YbulkaptmDoorFailA
import Derived.Test.YbulkaptmDoorFailB
import Derived.Test.YbulkaptmDoorFailC
namespace Go.Proofs.YbulkaptmDoor
open Go.RowKit
set_option linter.unusedVariables false
set_option linter.unusedSimpArgs false
set_option maxRecDepth 100000

theorem Keep.set {p o : Nat} {w : World} (u : Value) : Keep p w (w.setCell ⟨p, o, none⟩ u) :=
  ⟨fun k c t f hk _ hp => gblock (gset w ⟨p, o, none⟩ u) hk (by simpa using hp)⟩
theorem MsgSt.flagged {w : World} {B p : Nat} {fl cmd app hop ete : Int} {sv : Value} {avs : List Av} (h : MsgSt w B p fl cmd app hop ete sv avs) (fl' : Int) :
    MsgSt (w.setCell ⟨p, 0, none⟩ (.int .u8 fl')) B p fl' cmd app hop ete sv avs ∧ Below B w (w.setCell ⟨p, 0, none⟩ (.int .u8 fl')) := by
  have hp := own_ne41 h.row h.box (by decide)
  refine ⟨⟨?_, h.row.kept (gset _ _ _) ?_, h.low, by simpa using h.size⟩, (Below.refl B w).setCell (by simpa using h.low) _⟩
  · rw [heap_set _ _ _ _ _ _ _ h.box]; rfl
  · rcases h.row.2 with ⟨h0, _⟩ | _
    · subst h0; exact .inr (by simp [Value.ownBlock])
    · exact .inr (by intro e; exact hp e.symm)
theorem bboth {B : Nat} {w w1 w2 : World} (h : Below B w w1) (h2 : Below B w1 w2) : Below B w w2 :=
  ⟨h2.os.trans h.os, h2.tape.trans h.tape, h2.output.trans h.output, Nat.le_trans h.size h2.size, fun k hk => (h2.block k hk).trans (h.block k hk)⟩
theorem Globs.msg {w w' : World} {B : Nat} {nm : Nat → ByteArray} {z : Addr} (h : Globs w nm z) (hB : 17 ≤ B) (hb : Below B w w') : Globs w' nm z :=
  h.below ⟨hb.os, hb.tape, hb.output, hb.size, fun k hk => hb.block k (by omega)⟩

theorem as48 (v : Value) (w : World) : (Instr.typeAssert (.iface 48 v) 46 48 true).run Ybad.prog w = .ok (.tuple #[v, .bool true]) w := by kernel_rfl
theorem as131 (v : Value) (w : World) : (Instr.typeAssert (.iface 131 v) 46 48 true).run Ybad.prog w = .ok (.tuple #[.pointer none, .bool false]) w := by kernel_rfl

/-- (f12) errors.New. -/
theorem newErr (s : ByteArray) (w : World) : Calls Ybad.prog 12 #[.string s] w fun e w' => e = .returned (.iface 131 (.pointer (some ⟨w.heap.size, 0, none⟩))) ∧ w.grownBy w' none := by
  go_enter Ybad.func12, Ybad.ntmps12
  go_wp2
  go_ret
  exact ⟨rfl, World.grownBy_alloc _ _ _⟩

/-- What Fail makes of a message. -/
def FailPost (w : World) (B p : Nat) (fl cmd app hop ete : Int) (avs : List Av) (r v : Int) (failed : Bool) (e : Ending) (w' : World) : Prop :=
  e = .returned (.tuple #[]) ∧ ∃ sv' a1 rest, MsgSt w' B p (if v = 0 ∧ r / 1000 = 3 then bits .or .u8 fl 32 else fl) cmd app hop ete sv' (avs ++ a1 :: rest) ∧
    (v ≠ 0 → a1.code = 297) ∧ (v = 0 → a1.code = 268 ∧ a1.dl = 4 ∧ U8s w' a1.da 4 (be32 r)) ∧ (failed = false → rest = []) ∧ (failed = true → ∃ a2, rest = [a2] ∧ a2.code = 279) ∧ Keep p w w' ∧ Below B w w'

set_option maxHeartbeats 3200000 in
theorem fail_new (w : World) (B p : Nat) (fl cmd app hop ete : Int) (sv : Value) (avs : List Av) (nm : Nat → ByteArray) (z : Addr) (ev : Value) 
    (hms : MsgSt w B p fl cmd app hop ete sv avs) (hG : Globs w nm z) (hB : 17 ≤ B) (hn : avs.length ≤ 1000) :
    Calls Ybad.prog 16 #[.pointer (some ⟨p, 0, none⟩), (.iface 131 ev)] w (FailPost w B p fl cmd app hop ete avs 5012 0 false) := by
  have MS : Hid (MsgSt w B p fl cmd app hop ete sv avs) := hms
  have GL : Hid (Globs w nm z) := hG
  have HB : Hid (17 ≤ B) := hB
  have HN : Hid (avs.length ≤ 1000) := hn
  clear hms hG hB hn
  have TA := as131
  go_enter Ybad.func16, Ybad.ntmps16
  have z0 : (w.alloc (.cells #[.int .u32 5012, .int .u32 0, (.pointer none)] 51)).cell? ⟨p, 5, none⟩ = some sv := cellOf (gblockN (World.grownBy_alloc _ _ _) MS.out.box)
  clear z0
  go_wp2_with fail
  obtain ⟨W, hW⟩ : ∃ W, W = w.alloc (.cells #[.int .u32 5012, .int .u32 0, (.pointer none)] 51) := ⟨_, rfl⟩
  rw [← hW]
  have G0 : Hid (w.grownBy W none) := by show w.grownBy W none; rw [hW]; exact World.grownBy_alloc _ _ _
  have HE : Hid (W.heap[w.heap.size]? = some (.cells #[.int .u32 5012, .int .u32 0, (.pointer none)] 51 (0, 0))) := by show W.heap[w.heap.size]? = _; rw [hW]; exact heap_alloc_new _ _
  have MS0 : Hid (MsgSt W B p fl cmd app hop ete sv avs) := MS.out.grow G0.out
  have GL0 : Hid (Globs W nm z) := GL.out.grow G0.out
  have KP0 : Hid (Keep p w W) := Keep.of_grown G0.out
  have BL0 : Hid (Below B w W) := gbelow G0.out MS.out.size (by intro k hk; cases hk)
  clear hW
  refine fail_r7 (hms := MS0.out) (nm := nm) (z := z) (hG := GL0.out) (hB := HB.out) (hn := by have := HN.out; omega) (he := HE.out) (hr0 := by decide) (hr1 := by decide) (hQ := ?_)
  intros
  rename_i w1 a1 h1 h2 h3 hpost
  obtain ⟨sv1, ms1, kp1, bl1⟩ := hpost
  have MS1 : Hid (MsgSt w1 B p fl cmd app hop ete sv1 (avs ++ [a1])) := ms1
  have KP1 : Hid (Keep p w w1) := KP0.out.trans kp1
  have BL1 : Hid (Below B w w1) := bboth BL0.out bl1
  have HE1 : Hid (w1.heap[w.heap.size]? = some (.cells #[.int .u32 5012, .int .u32 0, (.pointer none)] 51 (0, 0))) := kp1.blk _ _ _ _ HE.out (by decide) (by intro e; have h := HE.out; rw [e, MS0.out.box] at h; cases h)
  have c2 : w1.cell? ⟨w.heap.size, 2, none⟩ = some (.pointer none) := cellOf HE1.out
  have U1 : Hid (U8s w1 a1.da 4 (be32 5012)) := h3
  clear h3
  clear ms1 kp1 bl1
  go_wp2_with fail
  go_end0
  refine ⟨rfl, sv1, a1, [], ?_, ?_, ?_, ?_, ?_, KP1.out, BL1.out⟩
  · rw [if_neg (by decide)]; exact MS1.out
  · intro h; exact absurd rfl h
  · intro _; exact ⟨h1, h2, U1.out⟩
  · intro _; rfl
  · intro h; cases h

set_option maxHeartbeats 3200000 in
theorem fail_v_none (w : World) (B p : Nat) (fl cmd app hop ete : Int) (sv : Value) (avs : List Av) (nm : Nat → ByteArray) (z : Addr) (e0 : Nat) (r : Int) (v : Int) 
    (hms : MsgSt w B p fl cmd app hop ete sv avs) (hG : Globs w nm z) (hB : 17 ≤ B) (hn : avs.length ≤ 1000) (hr0 : 0 ≤ r) (hr1 : r < 4294967296) (he : w.heap[e0]? = some (.cells #[.int .u32 r, .int .u32 v, (.pointer none)] 51 (0, 0))) (hv0 : 0 ≤ v) (hv1 : v < 4294967296) (hv : v ≠ 0) :
    Calls Ybad.prog 16 #[.pointer (some ⟨p, 0, none⟩), (.iface 48 (.pointer (some ⟨e0, 0, none⟩)))] w (FailPost w B p fl cmd app hop ete avs r v false) := by
  have MS : Hid (MsgSt w B p fl cmd app hop ete sv avs) := hms
  have GL : Hid (Globs w nm z) := hG
  have HB : Hid (17 ≤ B) := hB
  have HN : Hid (avs.length ≤ 1000) := hn
  clear hms hG hB hn
  have HE : Hid (w.heap[e0]? = some (.cells #[.int .u32 r, .int .u32 v, (.pointer none)] 51 (0, 0))) := he
  have c0 : w.cell? ⟨e0, 0, none⟩ = some (.int .u32 r) := cellOf HE.out
  have c1 : w.cell? ⟨e0, 1, none⟩ = some (.int .u32 v) := cellOf HE.out
  clear he
  have TA := as48
  go_enter Ybad.func16, Ybad.ntmps16
  go_wp2_with fail
  have MS0 : Hid (MsgSt w B p fl cmd app hop ete sv avs) := MS.out
  have BL0 : Hid (Below B w w) := Below.refl _ _
  have KP0 : Hid (Keep p w w) := ⟨fun _ _ _ _ h _ _ => h⟩
  have GL0 : Hid (Globs w nm z) := GL.out
  clear c0 c1
  refine fail_r4 (hms := MS0.out) (nm := nm) (z := z) (hG := GL0.out) (hB := HB.out) (hn := by have := HN.out; omega) (he := HE.out) (hr0 := hr0) (hr1 := hr1) (hv0 := hv0) (hv1 := hv1) (hQ := ?_)
  intros
  rename_i w1 a1 h1 hpost
  obtain ⟨sv1, ms1, kp1, bl1⟩ := hpost
  have MS1 : Hid (MsgSt w1 B p fl cmd app hop ete sv1 (avs ++ [a1])) := ms1
  have KP1 : Hid (Keep p w w1) := KP0.out.trans kp1
  have BL1 : Hid (Below B w w1) := bboth BL0.out bl1
  have HE1 : Hid (w1.heap[e0]? = some (.cells #[.int .u32 r, .int .u32 v, (.pointer none)] 51 (0, 0))) := kp1.blk _ _ _ _ HE.out (by decide) (by intro e; have h := HE.out; rw [e, MS0.out.box] at h; cases h)
  have c2 : w1.cell? ⟨e0, 2, none⟩ = some (.pointer none) := cellOf HE1.out
  clear ms1 kp1 bl1
  go_wp2_with fail
  go_end0
  refine ⟨rfl, sv1, a1, [], ?_, ?_, ?_, ?_, ?_, KP1.out, BL1.out⟩
  · rw [if_neg (fun h => hv h.1)]; exact MS1.out
  · intro _; exact h1
  · intro h; exact absurd h hv
  · intro _; rfl
  · intro h; cases h

set_option maxHeartbeats 3200000 in
theorem fail_3_none (w : World) (B p : Nat) (fl cmd app hop ete : Int) (sv : Value) (avs : List Av) (nm : Nat → ByteArray) (z : Addr) (e0 : Nat) (r : Int) 
    (hms : MsgSt w B p fl cmd app hop ete sv avs) (hG : Globs w nm z) (hB : 17 ≤ B) (hn : avs.length ≤ 1000) (hr0 : 0 ≤ r) (hr1 : r < 4294967296) (he : w.heap[e0]? = some (.cells #[.int .u32 r, .int .u32 0, (.pointer none)] 51 (0, 0))) (hq : r / 1000 = 3) :
    Calls Ybad.prog 16 #[.pointer (some ⟨p, 0, none⟩), (.iface 48 (.pointer (some ⟨e0, 0, none⟩)))] w (FailPost w B p fl cmd app hop ete avs r 0 false) := by
  have MS : Hid (MsgSt w B p fl cmd app hop ete sv avs) := hms
  have GL : Hid (Globs w nm z) := hG
  have HB : Hid (17 ≤ B) := hB
  have HN : Hid (avs.length ≤ 1000) := hn
  clear hms hG hB hn
  have HE : Hid (w.heap[e0]? = some (.cells #[.int .u32 r, .int .u32 0, (.pointer none)] 51 (0, 0))) := he
  have c0 : w.cell? ⟨e0, 0, none⟩ = some (.int .u32 r) := cellOf HE.out
  have c1 : w.cell? ⟨e0, 1, none⟩ = some (.int .u32 0) := cellOf HE.out
  have hqe : ∀ x : Int, x = r / 1000 → x = 3 := by intro x hx; omega
  have p0 : w.cell? ⟨p, 0, none⟩ = some (.int .u8 fl) := cellOf MS.out.box
  have pz : w.frozen? ⟨p, 0, none⟩ = false := frozenOf MS.out.box
  have hqd : r.tdiv 1000 = 3 := by rw [Int.tdiv_eq_ediv_of_nonneg hr0]; exact hq
  clear he
  have TA := as48
  go_enter Ybad.func16, Ybad.ntmps16
  go_wp2_with fail
  obtain ⟨W, hW⟩ : ∃ W, W = w.setCell ⟨p, 0, none⟩ (.int .u8 (bits .or .u8 fl 32)) := ⟨_, rfl⟩
  rw [← hW]
  have MS0 : Hid (MsgSt W B p (bits .or .u8 fl 32) cmd app hop ete sv avs) := by show MsgSt W B p (bits .or .u8 fl 32) cmd app hop ete sv avs; rw [hW]; exact (MS.out.flagged _).1
  have BL0 : Hid (Below B w W) := by show Below B w W; rw [hW]; exact (MS.out.flagged _).2
  have KP0 : Hid (Keep p w W) := by show Keep p w W; rw [hW]; exact Keep.set _
  have GL0 : Hid (Globs W nm z) := GL.out.msg HB.out BL0.out
  have HE0 : Hid (W.heap[e0]? = some (.cells #[.int .u32 r, .int .u32 0, (.pointer none)] 51 (0, 0))) := KP0.out.blk _ _ _ _ HE.out (by decide) (by intro e; subst e; have := HE.out; rw [MS.out.box] at this; cases this)
  clear hW c0 c1 p0 pz
  refine fail_r7 (hms := MS0.out) (nm := nm) (z := z) (hG := GL0.out) (hB := HB.out) (hn := by have := HN.out; omega) (he := HE0.out) (hr0 := hr0) (hr1 := hr1) (hQ := ?_)
  intros
  rename_i w1 a1 h1 h2 h3 hpost
  obtain ⟨sv1, ms1, kp1, bl1⟩ := hpost
  have MS1 : Hid (MsgSt w1 B p (bits .or .u8 fl 32) cmd app hop ete sv1 (avs ++ [a1])) := ms1
  have KP1 : Hid (Keep p w w1) := KP0.out.trans kp1
  have BL1 : Hid (Below B w w1) := bboth BL0.out bl1
  have HE1 : Hid (w1.heap[e0]? = some (.cells #[.int .u32 r, .int .u32 0, (.pointer none)] 51 (0, 0))) := kp1.blk _ _ _ _ HE0.out (by decide) (by intro e; have h := HE0.out; rw [e, MS0.out.box] at h; cases h)
  have c2 : w1.cell? ⟨e0, 2, none⟩ = some (.pointer none) := cellOf HE1.out
  have U1 : Hid (U8s w1 a1.da 4 (be32 r)) := h3
  clear h3
  clear ms1 kp1 bl1
  go_wp2_with fail
  go_end0
  refine ⟨rfl, sv1, a1, [], ?_, ?_, ?_, ?_, ?_, KP1.out, BL1.out⟩
  · rw [if_pos ⟨rfl, hq⟩]; exact MS1.out
  · intro h; exact absurd rfl h
  · intro _; exact ⟨h1, h2, U1.out⟩
  · intro _; rfl
  · intro h; cases h

set_option maxHeartbeats 3200000 in
theorem fail_0_none (w : World) (B p : Nat) (fl cmd app hop ete : Int) (sv : Value) (avs : List Av) (nm : Nat → ByteArray) (z : Addr) (e0 : Nat) (r : Int) 
    (hms : MsgSt w B p fl cmd app hop ete sv avs) (hG : Globs w nm z) (hB : 17 ≤ B) (hn : avs.length ≤ 1000) (hr0 : 0 ≤ r) (hr1 : r < 4294967296) (he : w.heap[e0]? = some (.cells #[.int .u32 r, .int .u32 0, (.pointer none)] 51 (0, 0))) (hq : r / 1000 ≠ 3) :
    Calls Ybad.prog 16 #[.pointer (some ⟨p, 0, none⟩), (.iface 48 (.pointer (some ⟨e0, 0, none⟩)))] w (FailPost w B p fl cmd app hop ete avs r 0 false) := by
  have MS : Hid (MsgSt w B p fl cmd app hop ete sv avs) := hms
  have GL : Hid (Globs w nm z) := hG
  have HB : Hid (17 ≤ B) := hB
  have HN : Hid (avs.length ≤ 1000) := hn
  clear hms hG hB hn
  have HE : Hid (w.heap[e0]? = some (.cells #[.int .u32 r, .int .u32 0, (.pointer none)] 51 (0, 0))) := he
  have c0 : w.cell? ⟨e0, 0, none⟩ = some (.int .u32 r) := cellOf HE.out
  have c1 : w.cell? ⟨e0, 1, none⟩ = some (.int .u32 0) := cellOf HE.out
  have hqd : r.tdiv 1000 ≠ 3 := by rw [Int.tdiv_eq_ediv_of_nonneg hr0]; exact hq
  clear he
  have TA := as48
  go_enter Ybad.func16, Ybad.ntmps16
  go_wp2_with fail
  have MS0 : Hid (MsgSt w B p fl cmd app hop ete sv avs) := MS.out
  have BL0 : Hid (Below B w w) := Below.refl _ _
  have KP0 : Hid (Keep p w w) := ⟨fun _ _ _ _ h _ _ => h⟩
  have GL0 : Hid (Globs w nm z) := GL.out
  clear c0 c1
  refine fail_r7 (hms := MS0.out) (nm := nm) (z := z) (hG := GL0.out) (hB := HB.out) (hn := by have := HN.out; omega) (he := HE.out) (hr0 := hr0) (hr1 := hr1) (hQ := ?_)
  intros
  rename_i w1 a1 h1 h2 h3 hpost
  obtain ⟨sv1, ms1, kp1, bl1⟩ := hpost
  have MS1 : Hid (MsgSt w1 B p fl cmd app hop ete sv1 (avs ++ [a1])) := ms1
  have KP1 : Hid (Keep p w w1) := KP0.out.trans kp1
  have BL1 : Hid (Below B w w1) := bboth BL0.out bl1
  have HE1 : Hid (w1.heap[e0]? = some (.cells #[.int .u32 r, .int .u32 0, (.pointer none)] 51 (0, 0))) := kp1.blk _ _ _ _ HE.out (by decide) (by intro e; have h := HE.out; rw [e, MS0.out.box] at h; cases h)
  have c2 : w1.cell? ⟨e0, 2, none⟩ = some (.pointer none) := cellOf HE1.out
  have U1 : Hid (U8s w1 a1.da 4 (be32 r)) := h3
  clear h3
  clear ms1 kp1 bl1
  go_wp2_with fail
  go_end0
  refine ⟨rfl, sv1, a1, [], ?_, ?_, ?_, ?_, ?_, KP1.out, BL1.out⟩
  · rw [if_neg (fun h => hq h.2)]; exact MS1.out
  · intro h; exact absurd rfl h
  · intro _; exact ⟨h1, h2, U1.out⟩
  · intro _; rfl
  · intro h; cases h

set_option maxHeartbeats 3200000 in
theorem fail_v_some (w : World) (B p : Nat) (fl cmd app hop ete : Int) (sv : Value) (avs : List Av) (nm : Nat → ByteArray) (z : Addr) (e0 : Nat) (r : Int) (v : Int) (f0 : Nat) (fc : Int) 
    (hms : MsgSt w B p fl cmd app hop ete sv avs) (hG : Globs w nm z) (hB : 17 ≤ B) (hn : avs.length ≤ 1000) (hr0 : 0 ≤ r) (hr1 : r < 4294967296) (he : w.heap[e0]? = some (.cells #[.int .u32 r, .int .u32 v, (.pointer (some ⟨f0, 0, none⟩))] 51 (0, 0))) (hv0 : 0 ≤ v) (hv1 : v < 4294967296) (hv : v ≠ 0) (hfb : w.heap[f0]? = some (.cells #[.int .u32 fc, .int .u8 0, .int .u32 0, .slice none 0 0] 41 (0, 0))) (hfB : f0 < B) (hf0 : 0 ≤ fc) (hf1 : fc < 4294967296) :
    Calls Ybad.prog 16 #[.pointer (some ⟨p, 0, none⟩), (.iface 48 (.pointer (some ⟨e0, 0, none⟩)))] w (FailPost w B p fl cmd app hop ete avs r v true) := by
  have MS : Hid (MsgSt w B p fl cmd app hop ete sv avs) := hms
  have GL : Hid (Globs w nm z) := hG
  have HB : Hid (17 ≤ B) := hB
  have HN : Hid (avs.length ≤ 1000) := hn
  have HFB : Hid (w.heap[f0]? = some (.cells #[.int .u32 fc, .int .u8 0, .int .u32 0, .slice none 0 0] 41 (0, 0)) ∧ f0 < B ∧ 0 ≤ fc ∧ fc < 4294967296) := ⟨hfb, hfB, hf0, hf1⟩
  clear hfb hfB hf0 hf1
  clear hms hG hB hn
  have HE : Hid (w.heap[e0]? = some (.cells #[.int .u32 r, .int .u32 v, (.pointer (some ⟨f0, 0, none⟩))] 51 (0, 0))) := he
  have c0 : w.cell? ⟨e0, 0, none⟩ = some (.int .u32 r) := cellOf HE.out
  have c1 : w.cell? ⟨e0, 1, none⟩ = some (.int .u32 v) := cellOf HE.out
  clear he
  have TA := as48
  go_enter Ybad.func16, Ybad.ntmps16
  go_wp2_with fail
  have MS0 : Hid (MsgSt w B p fl cmd app hop ete sv avs) := MS.out
  have BL0 : Hid (Below B w w) := Below.refl _ _
  have KP0 : Hid (Keep p w w) := ⟨fun _ _ _ _ h _ _ => h⟩
  have GL0 : Hid (Globs w nm z) := GL.out
  clear c0 c1
  refine fail_r4 (hms := MS0.out) (nm := nm) (z := z) (hG := GL0.out) (hB := HB.out) (hn := by have := HN.out; omega) (he := HE.out) (hr0 := hr0) (hr1 := hr1) (hv0 := hv0) (hv1 := hv1) (hQ := ?_)
  intros
  rename_i w1 a1 h1 hpost
  obtain ⟨sv1, ms1, kp1, bl1⟩ := hpost
  have MS1 : Hid (MsgSt w1 B p fl cmd app hop ete sv1 (avs ++ [a1])) := ms1
  have KP1 : Hid (Keep p w w1) := KP0.out.trans kp1
  have BL1 : Hid (Below B w w1) := bboth BL0.out bl1
  have HE1 : Hid (w1.heap[e0]? = some (.cells #[.int .u32 r, .int .u32 v, (.pointer (some ⟨f0, 0, none⟩))] 51 (0, 0))) := kp1.blk _ _ _ _ HE.out (by decide) (by intro e; have h := HE.out; rw [e, MS0.out.box] at h; cases h)
  have c2 : w1.cell? ⟨e0, 2, none⟩ = some (.pointer (some ⟨f0, 0, none⟩)) := cellOf HE1.out
  clear ms1 kp1 bl1
  go_wp2_with fail
  refine fail_r9 (hms := MS1.out) (nm := nm) (z := z) (hG := GL.out.msg HB.out BL1.out) (hB := HB.out) (hn := by have := HN.out; simp; omega) (he := HE1.out) (hfb := (BL1.out.block _ HFB.out.2.1).trans HFB.out.1) (hfB := HFB.out.2.1) (hf0 := HFB.out.2.2.1) (hf1 := HFB.out.2.2.2) (hQ := ?_)
  intros
  rename_i w2 a2 g1 hpost
  obtain ⟨sv2, ms2, kp2, bl2⟩ := hpost
  have MS2 : Hid (MsgSt w2 B p fl cmd app hop ete sv2 (avs ++ [a1] ++ [a2])) := ms2
  have KP2 : Hid (Keep p w w2) := KP1.out.trans kp2
  have BL2 : Hid (Below B w w2) := bboth BL1.out bl2
  clear ms2 kp2 bl2
  go_wp2
  go_end0
  refine ⟨rfl, sv2, a1, [a2], ?_, ?_, ?_, ?_, ?_, KP2.out, BL2.out⟩
  · rw [if_neg (fun h => hv h.1)]; simpa using MS2.out
  · intro _; exact h1
  · intro h; exact absurd h hv
  · intro h; cases h
  · intro _; exact ⟨a2, rfl, g1⟩

set_option maxHeartbeats 3200000 in
theorem fail_3_some (w : World) (B p : Nat) (fl cmd app hop ete : Int) (sv : Value) (avs : List Av) (nm : Nat → ByteArray) (z : Addr) (e0 : Nat) (r : Int) (f0 : Nat) (fc : Int) 
    (hms : MsgSt w B p fl cmd app hop ete sv avs) (hG : Globs w nm z) (hB : 17 ≤ B) (hn : avs.length ≤ 1000) (hr0 : 0 ≤ r) (hr1 : r < 4294967296) (he : w.heap[e0]? = some (.cells #[.int .u32 r, .int .u32 0, (.pointer (some ⟨f0, 0, none⟩))] 51 (0, 0))) (hq : r / 1000 = 3) (hfb : w.heap[f0]? = some (.cells #[.int .u32 fc, .int .u8 0, .int .u32 0, .slice none 0 0] 41 (0, 0))) (hfB : f0 < B) (hf0 : 0 ≤ fc) (hf1 : fc < 4294967296) :
    Calls Ybad.prog 16 #[.pointer (some ⟨p, 0, none⟩), (.iface 48 (.pointer (some ⟨e0, 0, none⟩)))] w (FailPost w B p fl cmd app hop ete avs r 0 true) := by
  have MS : Hid (MsgSt w B p fl cmd app hop ete sv avs) := hms
  have GL : Hid (Globs w nm z) := hG
  have HB : Hid (17 ≤ B) := hB
  have HN : Hid (avs.length ≤ 1000) := hn
  have HFB : Hid (w.heap[f0]? = some (.cells #[.int .u32 fc, .int .u8 0, .int .u32 0, .slice none 0 0] 41 (0, 0)) ∧ f0 < B ∧ 0 ≤ fc ∧ fc < 4294967296) := ⟨hfb, hfB, hf0, hf1⟩
  clear hfb hfB hf0 hf1
  clear hms hG hB hn
  have HE : Hid (w.heap[e0]? = some (.cells #[.int .u32 r, .int .u32 0, (.pointer (some ⟨f0, 0, none⟩))] 51 (0, 0))) := he
  have c0 : w.cell? ⟨e0, 0, none⟩ = some (.int .u32 r) := cellOf HE.out
  have c1 : w.cell? ⟨e0, 1, none⟩ = some (.int .u32 0) := cellOf HE.out
  have hqe : ∀ x : Int, x = r / 1000 → x = 3 := by intro x hx; omega
  have p0 : w.cell? ⟨p, 0, none⟩ = some (.int .u8 fl) := cellOf MS.out.box
  have pz : w.frozen? ⟨p, 0, none⟩ = false := frozenOf MS.out.box
  have hqd : r.tdiv 1000 = 3 := by rw [Int.tdiv_eq_ediv_of_nonneg hr0]; exact hq
  clear he
  have TA := as48
  go_enter Ybad.func16, Ybad.ntmps16
  go_wp2_with fail
  obtain ⟨W, hW⟩ : ∃ W, W = w.setCell ⟨p, 0, none⟩ (.int .u8 (bits .or .u8 fl 32)) := ⟨_, rfl⟩
  rw [← hW]
  have MS0 : Hid (MsgSt W B p (bits .or .u8 fl 32) cmd app hop ete sv avs) := by show MsgSt W B p (bits .or .u8 fl 32) cmd app hop ete sv avs; rw [hW]; exact (MS.out.flagged _).1
  have BL0 : Hid (Below B w W) := by show Below B w W; rw [hW]; exact (MS.out.flagged _).2
  have KP0 : Hid (Keep p w W) := by show Keep p w W; rw [hW]; exact Keep.set _
  have GL0 : Hid (Globs W nm z) := GL.out.msg HB.out BL0.out
  have HE0 : Hid (W.heap[e0]? = some (.cells #[.int .u32 r, .int .u32 0, (.pointer (some ⟨f0, 0, none⟩))] 51 (0, 0))) := KP0.out.blk _ _ _ _ HE.out (by decide) (by intro e; subst e; have := HE.out; rw [MS.out.box] at this; cases this)
  clear hW c0 c1 p0 pz
  refine fail_r7 (hms := MS0.out) (nm := nm) (z := z) (hG := GL0.out) (hB := HB.out) (hn := by have := HN.out; omega) (he := HE0.out) (hr0 := hr0) (hr1 := hr1) (hQ := ?_)
  intros
  rename_i w1 a1 h1 h2 h3 hpost
  obtain ⟨sv1, ms1, kp1, bl1⟩ := hpost
  have MS1 : Hid (MsgSt w1 B p (bits .or .u8 fl 32) cmd app hop ete sv1 (avs ++ [a1])) := ms1
  have KP1 : Hid (Keep p w w1) := KP0.out.trans kp1
  have BL1 : Hid (Below B w w1) := bboth BL0.out bl1
  have HE1 : Hid (w1.heap[e0]? = some (.cells #[.int .u32 r, .int .u32 0, (.pointer (some ⟨f0, 0, none⟩))] 51 (0, 0))) := kp1.blk _ _ _ _ HE0.out (by decide) (by intro e; have h := HE0.out; rw [e, MS0.out.box] at h; cases h)
  have c2 : w1.cell? ⟨e0, 2, none⟩ = some (.pointer (some ⟨f0, 0, none⟩)) := cellOf HE1.out
  have U1 : Hid (U8s w1 a1.da 4 (be32 r)) := h3
  clear h3
  clear ms1 kp1 bl1
  go_wp2_with fail
  refine fail_r9 (hms := MS1.out) (nm := nm) (z := z) (hG := GL.out.msg HB.out BL1.out) (hB := HB.out) (hn := by have := HN.out; simp; omega) (he := HE1.out) (hfb := (BL1.out.block _ HFB.out.2.1).trans HFB.out.1) (hfB := HFB.out.2.1) (hf0 := HFB.out.2.2.1) (hf1 := HFB.out.2.2.2) (hQ := ?_)
  intros
  rename_i w2 a2 g1 hpost
  obtain ⟨sv2, ms2, kp2, bl2⟩ := hpost
  have MS2 : Hid (MsgSt w2 B p (bits .or .u8 fl 32) cmd app hop ete sv2 (avs ++ [a1] ++ [a2])) := ms2
  have KP2 : Hid (Keep p w w2) := KP1.out.trans kp2
  have BL2 : Hid (Below B w w2) := bboth BL1.out bl2
  have U2 : Hid (U8s w2 a1.da 4 (be32 r)) := U1.out.keep MS1.out.box kp2
  clear ms2 kp2 bl2
  go_wp2
  go_end0
  refine ⟨rfl, sv2, a1, [a2], ?_, ?_, ?_, ?_, ?_, KP2.out, BL2.out⟩
  · rw [if_pos ⟨rfl, hq⟩]; simpa using MS2.out
  · intro h; exact absurd rfl h
  · intro _; exact ⟨h1, h2, U2.out⟩
  · intro h; cases h
  · intro _; exact ⟨a2, rfl, g1⟩

set_option maxHeartbeats 3200000 in
theorem fail_0_some (w : World) (B p : Nat) (fl cmd app hop ete : Int) (sv : Value) (avs : List Av) (nm : Nat → ByteArray) (z : Addr) (e0 : Nat) (r : Int) (f0 : Nat) (fc : Int) 
    (hms : MsgSt w B p fl cmd app hop ete sv avs) (hG : Globs w nm z) (hB : 17 ≤ B) (hn : avs.length ≤ 1000) (hr0 : 0 ≤ r) (hr1 : r < 4294967296) (he : w.heap[e0]? = some (.cells #[.int .u32 r, .int .u32 0, (.pointer (some ⟨f0, 0, none⟩))] 51 (0, 0))) (hq : r / 1000 ≠ 3) (hfb : w.heap[f0]? = some (.cells #[.int .u32 fc, .int .u8 0, .int .u32 0, .slice none 0 0] 41 (0, 0))) (hfB : f0 < B) (hf0 : 0 ≤ fc) (hf1 : fc < 4294967296) :
    Calls Ybad.prog 16 #[.pointer (some ⟨p, 0, none⟩), (.iface 48 (.pointer (some ⟨e0, 0, none⟩)))] w (FailPost w B p fl cmd app hop ete avs r 0 true) := by
  have MS : Hid (MsgSt w B p fl cmd app hop ete sv avs) := hms
  have GL : Hid (Globs w nm z) := hG
  have HB : Hid (17 ≤ B) := hB
  have HN : Hid (avs.length ≤ 1000) := hn
  have HFB : Hid (w.heap[f0]? = some (.cells #[.int .u32 fc, .int .u8 0, .int .u32 0, .slice none 0 0] 41 (0, 0)) ∧ f0 < B ∧ 0 ≤ fc ∧ fc < 4294967296) := ⟨hfb, hfB, hf0, hf1⟩
  clear hfb hfB hf0 hf1
  clear hms hG hB hn
  have HE : Hid (w.heap[e0]? = some (.cells #[.int .u32 r, .int .u32 0, (.pointer (some ⟨f0, 0, none⟩))] 51 (0, 0))) := he
  have c0 : w.cell? ⟨e0, 0, none⟩ = some (.int .u32 r) := cellOf HE.out
  have c1 : w.cell? ⟨e0, 1, none⟩ = some (.int .u32 0) := cellOf HE.out
  have hqd : r.tdiv 1000 ≠ 3 := by rw [Int.tdiv_eq_ediv_of_nonneg hr0]; exact hq
  clear he
  have TA := as48
  go_enter Ybad.func16, Ybad.ntmps16
  go_wp2_with fail
  have MS0 : Hid (MsgSt w B p fl cmd app hop ete sv avs) := MS.out
  have BL0 : Hid (Below B w w) := Below.refl _ _
  have KP0 : Hid (Keep p w w) := ⟨fun _ _ _ _ h _ _ => h⟩
  have GL0 : Hid (Globs w nm z) := GL.out
  clear c0 c1
  refine fail_r7 (hms := MS0.out) (nm := nm) (z := z) (hG := GL0.out) (hB := HB.out) (hn := by have := HN.out; omega) (he := HE.out) (hr0 := hr0) (hr1 := hr1) (hQ := ?_)
  intros
  rename_i w1 a1 h1 h2 h3 hpost
  obtain ⟨sv1, ms1, kp1, bl1⟩ := hpost
  have MS1 : Hid (MsgSt w1 B p fl cmd app hop ete sv1 (avs ++ [a1])) := ms1
  have KP1 : Hid (Keep p w w1) := KP0.out.trans kp1
  have BL1 : Hid (Below B w w1) := bboth BL0.out bl1
  have HE1 : Hid (w1.heap[e0]? = some (.cells #[.int .u32 r, .int .u32 0, (.pointer (some ⟨f0, 0, none⟩))] 51 (0, 0))) := kp1.blk _ _ _ _ HE.out (by decide) (by intro e; have h := HE.out; rw [e, MS0.out.box] at h; cases h)
  have c2 : w1.cell? ⟨e0, 2, none⟩ = some (.pointer (some ⟨f0, 0, none⟩)) := cellOf HE1.out
  have U1 : Hid (U8s w1 a1.da 4 (be32 r)) := h3
  clear h3
  clear ms1 kp1 bl1
  go_wp2_with fail
  refine fail_r9 (hms := MS1.out) (nm := nm) (z := z) (hG := GL.out.msg HB.out BL1.out) (hB := HB.out) (hn := by have := HN.out; simp; omega) (he := HE1.out) (hfb := (BL1.out.block _ HFB.out.2.1).trans HFB.out.1) (hfB := HFB.out.2.1) (hf0 := HFB.out.2.2.1) (hf1 := HFB.out.2.2.2) (hQ := ?_)
  intros
  rename_i w2 a2 g1 hpost
  obtain ⟨sv2, ms2, kp2, bl2⟩ := hpost
  have MS2 : Hid (MsgSt w2 B p fl cmd app hop ete sv2 (avs ++ [a1] ++ [a2])) := ms2
  have KP2 : Hid (Keep p w w2) := KP1.out.trans kp2
  have BL2 : Hid (Below B w w2) := bboth BL1.out bl2
  have U2 : Hid (U8s w2 a1.da 4 (be32 r)) := U1.out.keep MS1.out.box kp2
  clear ms2 kp2 bl2
  go_wp2
  go_end0
  refine ⟨rfl, sv2, a1, [a2], ?_, ?_, ?_, ?_, ?_, KP2.out, BL2.out⟩
  · rw [if_neg (fun h => hq h.2)]; simpa using MS2.out
  · intro h; exact absurd rfl h
  · intro _; exact ⟨h1, h2, U2.out⟩
  · intro h; cases h
  · intro _; exact ⟨a2, rfl, g1⟩
end Go.Proofs.YbulkaptmDoor
