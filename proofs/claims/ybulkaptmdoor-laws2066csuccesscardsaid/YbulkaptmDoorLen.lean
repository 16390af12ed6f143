/-
  (f37) encodedLen.
-/
import Derived.Test.YbulkaptmDoorBase
import Derived.Deep.QuietTactic
import Derived.BigQuiet
import Derived.LoopTactic
namespace Go.Proofs.YbulkaptmDoor
open Go.RowKit
set_option linter.unusedVariables false
set_option maxRecDepth 100000

/-- The numbers of an AVP fit their kinds, and its bytes can be read. -/
structure Avp.Fits (a : Avp) (W : World) : Prop where
  c0 : 0 ≤ a.code
  c1 : a.code < 4294967296
  f0 : 0 ≤ a.flags
  f1 : a.flags ≤ 255
  v0 : 0 ≤ a.vendor
  v1 : a.vendor < 4294967296
  row : IsRow .u8 W a.da a.dl a.dl a.data
  dn : a.da = none → a.dl = 0 ∧ a.dc = 0

/-- The cells of an AVP at an address. -/
structure Avp.At (a : Avp) (w : World) (b o : Nat) : Prop where
  c0 : w.cell? ⟨b, o, none⟩ = some (.int .u32 a.code)
  c1 : w.cell? ⟨b, o + 1, none⟩ = some (.int .u8 a.flags)
  c2 : w.cell? ⟨b, o + 2, none⟩ = some (.int .u32 a.vendor)
  c3 : w.cell? ⟨b, o + 3, none⟩ = some (.slice a.da a.dl a.dc)

/-- A slice of AVPs: empty; or a row of them. -/
def IsAvps (W : World) (ao : Option Addr) (len : Nat) (avs : List Avp) : Prop :=
  (len = 0 ∧ avs = []) ∨ ∃ b off, ao = some ⟨b, off, none⟩ ∧ 0 < len ∧ avs.length = len ∧ ∀ i (h : i < avs.length), (avs[i]).At W b (off + i * 4) ∧ (avs[i]).Fits W

theorem Avp.At.below {a : Avp} {w w' : World} {b o : Nat} (h : a.At w b o) (hb : Below w.heap.size w w') : a.At w' b o := by
  have hl : b < w.heap.size := World.block_lt_of_cell? _ _ h.c0
  exact ⟨by rw [hb.cell (p := ⟨b, o, none⟩) hl]; exact h.c0, by rw [hb.cell (p := ⟨b, o + 1, none⟩) hl]; exact h.c1, by rw [hb.cell (p := ⟨b, o + 2, none⟩) hl]; exact h.c2, by rw [hb.cell (p := ⟨b, o + 3, none⟩) hl]; exact h.c3⟩

def total (avs : List Avp) : Nat := (avs.map elen).sum
theorem total_take (avs : List Avp) (k : Nat) (h : k < avs.length) : total (avs.take (k + 1)) = total (avs.take k) + elen avs[k] := by
  unfold total
  rw [List.take_succ_eq_append_getElem h, List.map_append, List.sum_append]
  simp

/-- What zzs2066bsmall asks. -/
def smallB (avs : List Avp) : Bool := decide (avs.length ≤ 256) && avs.all fun a => decide (a.dl ≤ 1048576)

set_option maxHeartbeats 800000 in
theorem encodedLen_any (b off len cap : Nat) (avs : List Avp) (w : World) (hll : avs.length = len) (hl : len ≤ 256) (hsm : ∀ a ∈ avs, a.dl ≤ 1048576)
    (hat : ∀ i (h : i < avs.length), (avs[i]).At w b (off + i * 4) ∧ (avs[i]).Fits w) :
    Calls Ybad.prog 37 #[.slice (some ⟨b, off, none⟩) len cap] w fun e w' => e = .returned (.int .i64 (total avs : Nat)) ∧ Below w.heap.size w w' := by
  have HA : Hid (∀ i (h : i < avs.length), (avs[i]).At w b (off + i * 4) ∧ (avs[i]).Fits w) := hat
  have HS : Hid (∀ a ∈ avs, a.dl ≤ 1048576) := hsm
  clear hat hsm
  go_enter Ybad.func37, Ybad.ntmps37
  go_wp2
  go_loopw [3, 8] (fun n i wr => ∃ k : Nat, k ≤ len ∧ i = .int .i64 k ∧ n = .int .i64 (total (avs.take k) : Nat) ∧ total (avs.take k) ≤ k * 1100000 ∧ Below w.heap.size w wr) (fun _ i _ => len - (intOf i).toNat)
  case atStart => exact ⟨0, Nat.zero_le _, rfl, rfl, by simp [total], Below.refl _ _⟩
  case round =>
    obtain ⟨k, hk, rfl, rfl, hb, hbel⟩ := hrel
    have HB : Hid (Below w.heap.size w wr) := hbel
    have hs := hbel.size
    clear hbel
    by_cases hlt : k < len
    · have hA := (HA.out k (by omega)).1.below HB.out
      have hF := (HA.out k (by omega)).2
      have hdl : (avs[k]'(by omega)).dl ≤ 1048576 := HS.out _ (List.getElem_mem _)
      obtain ⟨a, ha⟩ : ∃ a, a = avs[k]'(by omega) := ⟨_, rfl⟩
      rw [← ha] at hA hF hdl
      have HE : Hid (a = avs[k]'(by omega)) := ha
      have h0 := hA.c0
      have h1 := hA.c1
      have h2 := hA.c2
      have h3 := hA.c3
      clear ha hA
      obtain ⟨q, hq⟩ : ∃ q, q = (a.dl + 3) / 4 * 4 := ⟨_, rfl⟩
      obtain ⟨h, hh⟩ : ∃ h, h = hlen a.flags := ⟨_, rfl⟩
      obtain ⟨t, ht⟩ : ∃ t, t = total (avs.take k) := ⟨_, rfl⟩
      have HT : Hid (total (avs.take (k + 1)) = t + (h + q)) := by
        show total (avs.take (k + 1)) = _
        rw [total_take avs k (by omega), ← HE.out, ht, hq, hh]
        rfl
      have HP12 : Hid (∀ w, Calls Ybad.prog 44 #[.int .u8 a.flags] w fun e w' => e = .returned (.int .i64 (h : Int)) ∧ w' = w) := by rw [hh]; exact fun w => headerLen_any a.flags w
      have HP13 : Hid (∀ w, Calls Ybad.prog 45 #[.int .i64 (a.dl : Int)] w fun e w' => e = .returned (.int .i64 (q : Int)) ∧ w' = w) := by rw [hq]; exact fun w => padded_any a.dl (by omega) w
      have hq1 : (q : Int) ≤ 1048580 := by omega
      have hh1 : (h : Int) ≤ 12 := by rw [hh]; unfold hlen; split <;> decide
      rw [← ht] at hb
      have ht1 : (t : Int) ≤ 300000000 := by omega
      rw [← ht]
      clear hq hh ht
      go_wp2
      go_quiet ((first | (go_at_call 44; exact Calls.quiet_of_same (HP12.out _)) | (go_at_call 45; exact Calls.quiet_of_same (HP13.out _))))
      go_wp2
      go_roundw
      case rel => exact ⟨k + 1, by omega, by go_num, by rw [HT.out]; go_num, by rw [HT.out]; omega, below_drewN (HB.out.alloc hs _) _⟩
      case measure => simp [intOf]; omega
    · go_wp2
      go_ret
      refine ⟨?_, HB.out⟩
      show Ending.returned (.int .i64 (total (avs.take k) : Nat)) = _
      rw [List.take_of_length_le (by omega)]

/-- The empty slice. -/
theorem encodedLen_none (ao : Option Addr) (cap : Nat) (w : World) :
    Calls Ybad.prog 37 #[.slice ao 0 cap] w fun e w' => e = .returned (.int .i64 0) ∧ w' = w := by
  go_enter Ybad.func37, Ybad.ntmps37
  go_wp2
  refine wp_loop_rounds 1 ?_
  rw [rounds_succ]
  go_wp2
  go_ret
  exact ⟨rfl, rfl⟩

end Go.Proofs.YbulkaptmDoor
