/-
  What the walks of this seat speak of: slices of bytes that came in; the AVPs; their encoding; and the leaf functions: avpHeaderLen, padded, AppendUint32, zzs2066bput32.
-/
import Derived.Test.YbulkaptmDoorProg
import Derived.Test.YbulkaptmDoorBits
import Derived.Test.YbulkaptmDoorZeros
import Derived.WalkKit
import Derived.WalkSmall
import Derived.WalkSpells
import Derived.OpenShut
import Derived.KernelRfl
namespace Go.Proofs.YbulkaptmDoor
open Go.RowKit
set_option linter.unusedVariables false
set_option maxRecDepth 100000

/-- A slice of integers that came in: nil; or a row of 'cap' cells, the numbers 'zs'. -/
def IsRow (k : IntKind) (w : World) (a : Option Addr) (len cap : Nat) (zs : List Int) : Prop :=
  (a = none ∧ len = 0 ∧ cap = 0 ∧ zs = []) ∨
  ∃ x, a = some x ∧ len ≤ cap ∧ cap ≤ maxLen ∧ zs.length = cap ∧ (∀ i, i < zs.length → w.cell? (x.add i) = some (.int k (zs.getD i 0))) ∧ ∀ n ∈ zs, (Lit.int k n).wf = true

theorem IsRow.none {k : IntKind} {w : World} {a : Option Addr} {len cap : Nat} {zs : List Int} (h : IsRow k w a len cap zs) : a = .none → len = 0 ∧ cap = 0 := by
  intro ha
  rcases h with ⟨_, h1, h2, _⟩ | ⟨x, hx, _⟩
  · exact ⟨h1, h2⟩
  · rw [hx] at ha; cases ha

theorem IsRow.take_length {k : IntKind} {w : World} {a : Option Addr} {len cap : Nat} {zs : List Int} (h : IsRow k w a len cap zs) : (zs.take len).length = len := by
  rcases h with ⟨_, h1, h2, h3⟩ | ⟨x, _, hl, _, hz, _, _⟩
  · subst h1; subst h3; rfl
  · rw [List.length_take]; omega

theorem IsRow.cells {k : IntKind} {w w' : World} {a : Option Addr} {len cap : Nat} {zs : List Int} (h : IsRow k w a len cap zs) (hb : Below w.heap.size w w') :
    ∀ ad, a = some ad → ∀ j u, ((zs.take len).map (Value.int k))[j]? = some u → w'.cell? (ad.add j) = some u := by
  intro ad ha j u hu
  rcases h with ⟨h0, _, _, _⟩ | ⟨x, hx, hl, _, hz, hc, _⟩
  · rw [h0] at ha; cases ha
  · rw [hx] at ha
    obtain rfl := Option.some.inj ha
    have hj : j < (zs.take len).length := by
      rcases Nat.lt_or_ge j (zs.take len).length with h | h
      · exact h
      · rw [List.getElem?_eq_none (by simpa using h)] at hu; cases hu
    have hj' : j < len ∧ j < zs.length := by rw [List.length_take] at hj; omega
    have hcj := hc j hj'.2
    have hlt := World.block_lt_of_cell? _ _ hcj
    rw [hb.cell hlt, hcj]
    rw [← hu]
    simp [hj'.1, List.getElem?_eq_getElem hj'.2, List.getD]

theorem info5 : (Ybad.prog.info? 5).map (fun i => (i.zero, i.size, i.bytes)) = some (some (.int .u8 0), 1, 1) := by kernel_rfl

/-- An AVP, as data. -/
structure Avp where
  code : Int
  flags : Int
  vendor : Int
  da : Option Addr
  dl : Nat
  dc : Nat
  data : List Int

/-- The four bytes of a number, the greatest first. -/
def be32 (v : Int) : List Int := [v / 16777216, v / 65536 % 256, v / 256 % 256, v % 256]
/-- The V bit. -/
def vbit (flags : Int) : Bool := bits BinOp.and IntKind.u8 flags 128 != 0
/-- The header's length. -/
def hlen (flags : Int) : Nat := if vbit flags then 12 else 8
/-- The second word of the header: flags and length. -/
def word2 (flags : Int) (n : Nat) : Int := bits BinOp.or IntKind.u32 (flags * 16777216) ((hlen flags : Nat) + (n : Int))
/-- How many bytes pad n. -/
def pad (n : Nat) : Nat := (n + 3) / 4 * 4 - n
/-- One AVP encoded. -/
def enc (a : Avp) : List Int := be32 a.code ++ be32 (word2 a.flags a.dl) ++ (if vbit a.flags then be32 a.vendor else []) ++ a.data.take a.dl ++ List.replicate (pad a.dl) 0
/-- Its length. -/
def elen (a : Avp) : Nat := hlen a.flags + (a.dl + 3) / 4 * 4

theorem be32_length (v : Int) : (be32 v).length = 4 := rfl
theorem enc_length (a : Avp) (h : (a.data.take a.dl).length = a.dl) : (enc a).length = elen a := by
  unfold enc elen hlen pad
  simp only [List.length_append, be32_length, h, List.length_replicate]
  cases vbit a.flags <;> simp [be32_length] <;> omega

theorem gtrans {a b c : World} {row : Option Nat} (h : a.grownBy b row) (k : b.grownBy c row) : a.grownBy c row :=
  ⟨k.os.trans h.os, k.tape.trans h.tape, k.output.trans h.output, Nat.le_trans h.size k.size, fun i hi hne => (k.block i (Nat.lt_of_lt_of_le hi h.size) hne).trans (h.block i hi hne)⟩
/-- What was laid in a block of another element type outlives a turn of the row. -/
theorem own_ne {w : World} {B n k : Nat} {sv : Value} {xs : List Value} {c : Array Value} {t : TypeId} {f : Nat × Nat} (h : w.ownsRow B 5 1 sv n xs) (hk : w.heap[k]? = some (.cells c t f)) (ht : t ≠ 5) : some k ≠ sv.ownBlock := by
  intro e
  rcases h.2 with ⟨rfl, _⟩ | ⟨g, cap, cur, rfl, _, hg, _⟩
  · cases e
  · simp only [Value.ownBlock, Option.some.injEq] at e
    subst e
    rw [hg] at hk
    cases hk
    exact ht rfl
theorem gblock {w w' : World} {row : Option Nat} {k : Nat} {o : Obj} (hg : w.grownBy w' row) (hk : w.heap[k]? = some o) (hne : some k ≠ row) : w'.heap[k]? = some o := by
  rw [hg.block k ?_ hne]
  · exact hk
  · rcases Nat.lt_or_ge k w.heap.size with h | h
    · exact h
    · rw [Array.getElem?_eq_none h] at hk; cases hk
theorem cellOf {w : World} {k j : Nat} {c : Array Value} {t : TypeId} (hk : w.heap[k]? = some (.cells c t (0, 0))) : w.cell? ⟨k, j, none⟩ = c[j]? := by
  simp [World.cell?, hk]

/-- (f44) avpHeaderLen. -/
theorem headerLen_any (f : Int) (w : World) : Calls Ybad.prog 44 #[.int .u8 f] w fun e w' => e = .returned (.int .i64 (hlen f : Nat)) ∧ w' = w := by
  cases hv : vbit f
  · have hv' : (bits BinOp.and IntKind.u8 f 128 != 0) = false := hv
    have he : Hid (hlen f = 8) := by show hlen f = 8; unfold hlen; rw [hv]; rfl
    clear hv
    go_enter Ybad.func44, Ybad.ntmps44
    go_wp2
    go_ret
    exact ⟨by rw [he.out]; rfl, rfl⟩
  · have hv' : (bits BinOp.and IntKind.u8 f 128 != 0) = true := hv
    have he : Hid (hlen f = 12) := by show hlen f = 12; unfold hlen; rw [hv]; rfl
    clear hv
    go_enter Ybad.func44, Ybad.ntmps44
    go_wp2
    go_ret
    exact ⟨by rw [he.out]; rfl, rfl⟩

/-- (f45) padded. -/
theorem padded_any (n : Nat) (hn : n < 1000000000) (w : World) : Calls Ybad.prog 45 #[.int .i64 (n : Int)] w fun e w' => e = .returned (.int .i64 (((n + 3) / 4 * 4 : Nat) : Int)) ∧ w' = w := by
  have he : Hid (bits .andNot .i64 ((n : Int) + 3) 3 = (((n + 3) / 4 * 4 : Nat) : Int)) := padded_eq n hn
  have hn' : (n : Int) < 1000000000 := by omega
  go_enter Ybad.func45, Ybad.ntmps45
  go_wp2
  go_ret
  exact ⟨by rw [he.out]; rfl, rfl⟩

set_option maxHeartbeats 800000 in
/-- (f27) binary.BigEndian.AppendUint32, within the capacity. -/
theorem appendU32_fits (v : Int) (hv0 : 0 ≤ v) (hv1 : v < 4294967296) (B g n cap : Nat) (xs : List Value) (w : World) (hown : w.ownsRow B 5 1 (.slice (some ⟨g, 0, none⟩) n cap) n xs) (hB : B ≤ w.heap.size) (hfit : n + 4 ≤ cap) :
    Calls Ybad.prog 27 #[.agg #[], .slice (some ⟨g, 0, none⟩) n cap, .int .u32 v] w fun e w' => e = .returned (.slice (some ⟨g, 0, none⟩) (n + 4) cap) ∧ w'.ownsRow B 5 1 (.slice (some ⟨g, 0, none⟩) (n + 4) cap) (n + 4) (xs ++ (be32 v).map (Value.int .u8)) ∧ w.grownBy w' (some g) := by
  obtain ⟨i0, hi, hz0, hz1, hz2⟩ := info_parts info5
  have HO : Hid (w.ownsRow B 5 1 (.slice (some ⟨g, 0, none⟩) n cap) n xs) := hown
  clear hown
  go_enter Ybad.func27, Ybad.ntmps27
  go_wp2_with (at_builtin; refine wpList_append_fits _ rfl _ _ 23 rfl B 5 i0 1 Ybad.underlying23 hi hz1 g n cap xs rfl ((HO.out.alloc _).alloc _) ⟨w.heap.size + 1, 0, none⟩ 4 4 ((be32 v).map (Value.int .u8)) rfl rfl ?c1 ?c2 ?c3 ?_)
  case c1 =>
    intro j u hj
    match j, hj with
    | 0, hj => simp [be32] at hj; subst hj; simp [Addr.add]
    | 1, hj => simp [be32] at hj; subst hj; simp [Addr.add]
    | 2, hj => simp [be32] at hj; subst hj; simp [Addr.add]
    | 3, hj => simp [be32] at hj; subst hj; simp [Addr.add]
    | j + 4, hj => simp [be32] at hj
  case c2 => exact ints_oneCell _ _
  case c3 => omega
  intro w1 hown1 hg1
  have HB : Hid (w.grownBy w1 (some g)) := gtrans (gtrans (World.grownBy_alloc _ _ _) (World.grownBy_alloc _ _ _)) hg1
  have HO1 : Hid (w1.ownsRow B 5 1 (.slice (some ⟨g, 0, none⟩) (n + 4) cap) (n + 4) (xs ++ (be32 v).map (Value.int .u8))) := hown1
  clear hown1 hg1 HO
  go_wp2
  go_ret
  exact ⟨rfl, HO1.out, HB.out⟩

end Go.Proofs.YbulkaptmDoor
