/-
  (f18) Attr.Address of an IPv4 address.
-/
import Derived.Test.YbulkaptmDoorAttr
namespace Go.Proofs.YbulkaptmDoor
open Go.RowKit
set_option linter.unusedVariables false
set_option maxRecDepth 100000
set_option linter.unusedSimpArgs false

theorem keptN {w w' : World} {B n s : Nat} {e : TypeId} {sv : Value} {xs : List Value} (h : w.ownsRow B e s sv n xs) (hg : w.grownBy w' none) : w'.ownsRow B e s sv n xs :=
  h.kept hg (by cases hv : sv.ownBlock <;> simp)

theorem gown {w w1 w2 : World} {B n s : Nat} {e : TypeId} {sv : Value} {xs : List Value} (h : w.grownBy w1 none) (h2 : w1.grownBy w2 sv.ownBlock) (ho : w1.ownsRow B e s sv n xs) (hB : w.heap.size ≤ B) : w.grownBy w2 none :=
  ⟨h2.os.trans h.os, h2.tape.trans h.tape, h2.output.trans h.output, Nat.le_trans h.size h2.size, fun i hi _ => (h2.block i (Nat.lt_of_lt_of_le hi h.size) (by intro e; have := (ho.lt _ e.symm).1; omega)).trans (h.block i hi (by simp))⟩
theorem four_news {w : World} {g : Nat} {a b c d : Int} (h0 : w.cell? ⟨g, 0, none⟩ = some (.int .u8 a)) (h1 : w.cell? ⟨g, 1, none⟩ = some (.int .u8 b)) (h2 : w.cell? ⟨g, 2, none⟩ = some (.int .u8 c)) (h3 : w.cell? ⟨g, 3, none⟩ = some (.int .u8 d)) :
    ∀ j u, ([a, b, c, d].map (Value.int .u8))[j]? = some u → w.cell? ((⟨g, 0, none⟩ : Addr).add j) = some u := by
  intro j u hj
  match j, hj with
  | 0, hj => simp at hj; subst hj; simpa [Addr.add] using h0
  | 1, hj => simp at hj; subst hj; simpa [Addr.add] using h1
  | 2, hj => simp at hj; subst hj; simpa [Addr.add] using h2
  | 3, hj => simp at hj; subst hj; simpa [Addr.add] using h3
  | j + 4, hj => simp at hj

/-- What an attribute's box holds. -/
def AttrAt (w : World) (k : Nat) (name : ByteArray) (code vendor : Int) (mand : Bool) (typ : Int) : Prop :=
  w.heap[k]? = some (.cells #[.string name, .int .u32 code, .int .u32 vendor, .bool mand, .int .u8 typ] 122 (0, 0))

set_option maxHeartbeats 1600000 in
theorem attrAddress (name : ByteArray) (code vendor typ : Int) (mand : Bool) (lo : Int) (hl0 : 0 ≤ lo) (hl1 : lo < 18446744073709551616) (z : Addr) (w : World) (hz : Zs w z) :
    Calls Ybad.prog 18 #[.agg #[.string name, .int .u32 code, .int .u32 vendor, .bool mand, .int .u8 typ], .agg #[.int .u64 0, .int .u64 lo, .pointer (some z)]] w fun e w' =>
      (∃ da dl dc, e = .returned (.agg #[.int .u32 code, .int .u8 (aflags vendor mand), .int .u32 vendor, .slice da dl dc])) ∧ w.grownBy w' none := by
  obtain ⟨i0, hi, hz0, hz1, hz2⟩ := info_parts info5
  have HZ : Hid (Zs w z) := hz
  clear hz
  go_enter Ybad.func18, Ybad.ntmps18
  go_wp2_with fail
  obtain ⟨W, hW⟩ : ∃ W, W = (((w.alloc (.cells #[.string name, .int .u32 code, .int .u32 vendor, .bool mand, .int .u8 typ] 122)).alloc (.cells #[.int .u64 0, .int .u64 lo, .pointer (some z)] 95)).alloc (.cells #[.int .u32 0, .int .u8 0, .int .u32 0, .slice none 0 0] 41)) := ⟨_, rfl⟩
  rw [← hW]
  have K0 : Hid (AttrAt W w.heap.size name code vendor mand typ) := by
    show W.heap[w.heap.size]? = _
    rw [hW, Below.heap_alloc _ _ _ (by simp; omega), Below.heap_alloc _ _ _ (by simp)]
    exact heap_alloc_new _ _
  have I0 : Hid (W.heap[w.heap.size + 1]? = some (.cells #[.int .u64 0, .int .u64 lo, .pointer (some z)] 95 (0, 0))) := by
    show W.heap[w.heap.size + 1]? = _
    rw [hW, Below.heap_alloc _ _ _ (by simp)]
    have := heap_alloc_new (w.alloc (.cells #[.string name, .int .u32 code, .int .u32 vendor, .bool mand, .int .u8 typ] 122)) (.cells #[.int .u64 0, .int .u64 lo, .pointer (some z)] 95)
    simpa using this
  have L0 : Hid (W.heap[w.heap.size + 2]? = some (.cells #[.int .u32 0, .int .u8 0, .int .u32 0, .slice none 0 0] 41 (0, 0))) := by
    show W.heap[w.heap.size + 2]? = _
    rw [hW]
    have := heap_alloc_new ((w.alloc (.cells #[.string name, .int .u32 code, .int .u32 vendor, .bool mand, .int .u8 typ] 122)).alloc (.cells #[.int .u64 0, .int .u64 lo, .pointer (some z)] 95)) (.cells #[.int .u32 0, .int .u8 0, .int .u32 0, .slice none 0 0] 41)
    simpa using this
  have HG0 : Hid (w.grownBy W none) := by show w.grownBy W none; rw [hW]; exact gtrans (gtrans (World.grownBy_alloc _ _ _) (World.grownBy_alloc _ _ _)) (World.grownBy_alloc _ _ _)
  clear hW
  refine (unmap_any 0 lo z _ (HZ.out.grow HG0.out)).mono ?_
  rintro e w1 ⟨rfl, hg1⟩
  have HG1 : Hid (w.grownBy w1 none) := gtrans HG0.out hg1
  have K1 : Hid (AttrAt w1 w.heap.size name code vendor mand typ) := gblockN hg1 K0.out
  have I1 : Hid (w1.heap[w.heap.size + 1]? = _) := gblockN hg1 I0.out
  have L1 : Hid (w1.heap[w.heap.size + 2]? = _) := gblockN hg1 L0.out
  clear hg1 HG0 K0 I0 L0
  go_wp2_with fail
  refine (is4_any 0 lo z _ (HZ.out.grow HG1.out)).mono ?_
  rintro e w2 ⟨rfl, hg2⟩
  have HG2 : Hid (w.grownBy w2 none) := gtrans HG1.out hg2
  have K2 : Hid (AttrAt w2 w.heap.size name code vendor mand typ) := gblockN hg2 K1.out
  have I2 : Hid (w2.heap[w.heap.size + 1]? = _) := gblockN hg2 I1.out
  have L2 : Hid (w2.heap[w.heap.size + 2]? = _) := gblockN hg2 L1.out
  clear hg2 HG1 K1 I1 L1
  go_wp2_with fail
  refine (appendU16_nil 1 (by decide) (by decide) _).mono ?_
  rintro e w3 ⟨⟨sv, a, b, rfl, hown3⟩, hg3⟩
  have HG3 : Hid (w.grownBy w3 none) := gtrans HG2.out hg3
  have K3 : Hid (AttrAt w3 w.heap.size name code vendor mand typ) := gblockN hg3 K2.out
  have I3 : Hid (w3.heap[w.heap.size + 1]? = _) := gblockN hg3 I2.out
  have L3 : Hid (w3.heap[w.heap.size + 2]? = _) := gblockN hg3 L2.out
  have HO3 : Hid (w3.ownsRow w2.heap.size 5 1 sv 2 [.int .u8 a, .int .u8 b]) := hown3
  have hs3 : w2.heap.size ≤ w3.heap.size := hg3.size
  have hs2 : w.heap.size + 2 < w2.heap.size := by
    rcases Nat.lt_or_ge (w.heap.size + 2) w2.heap.size with h | h
    · exact h
    · rw [Array.getElem?_eq_none h] at L2; have := L2.out; cases this
  clear hg3 HG2 K2 I2 L2 hown3
  go_wp2_with fail
  have S_w3 : w3.cell? ⟨w.heap.size, 0, none⟩ = some (.string name) ∧ w3.cell? ⟨w.heap.size, 1, none⟩ = some (.int .u32 code) ∧ w3.cell? ⟨w.heap.size, 2, none⟩ = some (.int .u32 vendor) ∧ w3.cell? ⟨w.heap.size, 3, none⟩ = some (.bool mand) ∧ w3.cell? ⟨w.heap.size, 4, none⟩ = some (.int .u8 typ) ∧ w3.cell? ⟨w.heap.size + 1, 0, none⟩ = some (.int .u64 0) ∧ w3.cell? ⟨w.heap.size + 1, 1, none⟩ = some (.int .u64 lo) ∧ w3.cell? ⟨w.heap.size + 1, 2, none⟩ = some (.pointer (some z)) := ⟨cellOf K3.out, cellOf K3.out, cellOf K3.out, cellOf K3.out, cellOf K3.out, cellOf I3.out, cellOf I3.out, cellOf I3.out⟩
  have hne1 : w.heap.size + 1 + 1 ≠ w.heap.size := by omega
  have hne2 : w.heap.size ≠ w.heap.size + 1 + 1 := by omega
  go_region_held3 (fun w' => w'.cell? ⟨w.heap.size, 0, none⟩ = some (.string name) ∧ w'.cell? ⟨w.heap.size, 1, none⟩ = some (.int .u32 code) ∧ w'.cell? ⟨w.heap.size, 2, none⟩ = some (.int .u32 vendor) ∧ w'.cell? ⟨w.heap.size, 3, none⟩ = some (.bool mand) ∧ w'.cell? ⟨w.heap.size, 4, none⟩ = some (.int .u8 typ) ∧ w'.cell? ⟨w.heap.size + 1, 0, none⟩ = some (.int .u64 0) ∧ w'.cell? ⟨w.heap.size + 1, 1, none⟩ = some (.int .u64 lo) ∧ w'.cell? ⟨w.heap.size + 1, 2, none⟩ = some (.pointer (some z)))
    (first | with_reducible assumption | go_keep)
    (first
      | (refine step_append_lies _ rfl (.tmp 15) (.tmp 18) 23 rfl w2.heap.size 5 i0 (.int .u8 0) 1 1 Ybad.underlying23 hi hz0 hz1 hz2 rfl (by decide) sv 2 _ (by simp [Act.eval, Act.put]) HO5.out ⟨g, 0, none⟩ 4 4 ([b0, b1, b2, b3].map (Value.int .u8)) (by simp [Act.eval, Act.put]) rfl HN.out (ints_oneCell _ _) (by decide) HM.out.1 (by decide) HM.out.2 _ rfl ?_
         intro g' cap' w6 hown6 hg6 _ _
         have HG6 : Hid (w.grownBy w6 none) := gown HG5.out hg6 HO5.out (by omega)
         have K6 : Hid (AttrAt w6 w.heap.size name code vendor mand typ) := gblock hg6 K5.out (own_ne HO5.out K5.out (by decide))
         have I6 : Hid (w6.heap[w.heap.size + 1]? = _) := gblock hg6 I5.out (own_ne HO5.out I5.out (by decide))
         have L6 : Hid (w6.heap[w.heap.size + 2]? = _) := gblock hg6 L5.out (own_ne HO5.out L5.out (by decide))
         have S_w6 : w6.cell? ⟨w.heap.size, 0, none⟩ = some (.string name) ∧ w6.cell? ⟨w.heap.size, 1, none⟩ = some (.int .u32 code) ∧ w6.cell? ⟨w.heap.size, 2, none⟩ = some (.int .u32 vendor) ∧ w6.cell? ⟨w.heap.size, 3, none⟩ = some (.bool mand) ∧ w6.cell? ⟨w.heap.size, 4, none⟩ = some (.int .u8 typ) ∧ w6.cell? ⟨w.heap.size + 1, 0, none⟩ = some (.int .u64 0) ∧ w6.cell? ⟨w.heap.size + 1, 1, none⟩ = some (.int .u64 lo) ∧ w6.cell? ⟨w.heap.size + 1, 2, none⟩ = some (.pointer (some z)) := ⟨cellOf K6.out, cellOf K6.out, cellOf K6.out, cellOf K6.out, cellOf K6.out, cellOf I6.out, cellOf I6.out, cellOf I6.out⟩
         clear hown6 hg6)
      | (go_at_call 28; refine (unmap_any 0 lo z _ ((HZ.out.grow HG3.out).grow (gdrew _ _))).mono ?_; rintro e w4 ⟨rfl, hg4⟩
         have HG4 : Hid (w.grownBy w4 none) := gtrans HG3.out (gtrans (gdrew _ _) hg4)
         have K4 : Hid (AttrAt w4 w.heap.size name code vendor mand typ) := gblockN hg4 K3.out
         have I4 : Hid (w4.heap[w.heap.size + 1]? = _) := gblockN hg4 I3.out
         have L4 : Hid (w4.heap[w.heap.size + 2]? = _) := gblockN hg4 L3.out
         have HO4 : Hid (w4.ownsRow w2.heap.size 5 1 sv 2 [.int .u8 a, .int .u8 b]) := keptN HO3.out (gtrans (gdrew _ _) hg4)
         have hs4 : w2.heap.size ≤ w4.heap.size := Nat.le_trans hs3 (gtrans (gdrew w3 none) hg4).size
         have S_w4 : w4.cell? ⟨w.heap.size, 0, none⟩ = some (.string name) ∧ w4.cell? ⟨w.heap.size, 1, none⟩ = some (.int .u32 code) ∧ w4.cell? ⟨w.heap.size, 2, none⟩ = some (.int .u32 vendor) ∧ w4.cell? ⟨w.heap.size, 3, none⟩ = some (.bool mand) ∧ w4.cell? ⟨w.heap.size, 4, none⟩ = some (.int .u8 typ) ∧ w4.cell? ⟨w.heap.size + 1, 0, none⟩ = some (.int .u64 0) ∧ w4.cell? ⟨w.heap.size + 1, 1, none⟩ = some (.int .u64 lo) ∧ w4.cell? ⟨w.heap.size + 1, 2, none⟩ = some (.pointer (some z)) := ⟨cellOf K4.out, cellOf K4.out, cellOf K4.out, cellOf K4.out, cellOf K4.out, cellOf I4.out, cellOf I4.out, cellOf I4.out⟩
         clear hg4)
      | (go_at_call 31; refine (asSlice_any 0 lo z _ (HZ.out.grow HG4.out) hl0 hl1).mono ?_; rintro e w5 ⟨⟨g, rfl, hf5⟩, hg5⟩
         have HG5 : Hid (w.grownBy w5 none) := gtrans HG4.out hg5
         have K5 : Hid (AttrAt w5 w.heap.size name code vendor mand typ) := gblockN hg5 K4.out
         have I5 : Hid (w5.heap[w.heap.size + 1]? = _) := gblockN hg5 I4.out
         have L5 : Hid (w5.heap[w.heap.size + 2]? = _) := gblockN hg5 L4.out
         have HO5 : Hid (w5.ownsRow w2.heap.size 5 1 sv 2 [.int .u8 a, .int .u8 b]) := keptN HO4.out hg5
         have HM : Hid (2 + 4 ≤ maxLen ∧ w2.heap.size ≤ w5.heap.size) := ⟨by unfold maxLen; omega, Nat.le_trans hs4 hg5.size⟩
         obtain ⟨⟨b0, c0⟩, ⟨b1, c1⟩, ⟨b2, c2⟩, ⟨b3, c3⟩, _, _, _, _⟩ := hf5
         have HN : Hid (∀ j u, ([b0, b1, b2, b3].map (Value.int .u8))[j]? = some u → w5.cell? ((⟨g, 0, none⟩ : Addr).add j) = some u) := four_news c0 c1 c2 c3
         have S_w5 : w5.cell? ⟨w.heap.size, 0, none⟩ = some (.string name) ∧ w5.cell? ⟨w.heap.size, 1, none⟩ = some (.int .u32 code) ∧ w5.cell? ⟨w.heap.size, 2, none⟩ = some (.int .u32 vendor) ∧ w5.cell? ⟨w.heap.size, 3, none⟩ = some (.bool mand) ∧ w5.cell? ⟨w.heap.size, 4, none⟩ = some (.int .u8 typ) ∧ w5.cell? ⟨w.heap.size + 1, 0, none⟩ = some (.int .u64 0) ∧ w5.cell? ⟨w.heap.size + 1, 1, none⟩ = some (.int .u64 lo) ∧ w5.cell? ⟨w.heap.size + 1, 2, none⟩ = some (.pointer (some z)) := ⟨cellOf K5.out, cellOf K5.out, cellOf K5.out, cellOf K5.out, cellOf K5.out, cellOf I5.out, cellOf I5.out, cellOf I5.out⟩
         clear hg5 c0 c1 c2 c3)
      | (go_at_call 26; refine (avp_any name code vendor typ mand _ _ _ _).mono ?_; rintro e w7 ⟨rfl, hg7⟩
         have HG7 : Hid (w.grownBy w7 none) := gtrans HG6.out hg7
         have K7 : Hid (AttrAt w7 w.heap.size name code vendor mand typ) := gblockN hg7 K6.out
         have I7 : Hid (w7.heap[w.heap.size + 1]? = _) := gblockN hg7 I6.out
         have L7 : Hid (w7.heap[w.heap.size + 2]? = _) := gblockN hg7 L6.out
         have f0 : w7.cell? ⟨w.heap.size + 2, 0, none⟩ = some (.int .u32 0) := cellOf L7.out
         have f1 : w7.cell? ⟨w.heap.size + 2, 1, none⟩ = some (.int .u8 0) := cellOf L7.out
         have f2 : w7.cell? ⟨w.heap.size + 2, 2, none⟩ = some (.int .u32 0) := cellOf L7.out
         have f3 : w7.cell? ⟨w.heap.size + 2, 3, none⟩ = some (.slice none 0 0) := cellOf L7.out
         have z0 : w7.frozen? ⟨w.heap.size + 2, 0, none⟩ = false := frozenOf L7.out
         have z1 : w7.frozen? ⟨w.heap.size + 2, 1, none⟩ = false := frozenOf L7.out
         have z2 : w7.frozen? ⟨w.heap.size + 2, 2, none⟩ = false := frozenOf L7.out
         have z3 : w7.frozen? ⟨w.heap.size + 2, 3, none⟩ = false := frozenOf L7.out
         have S_w7 : w7.cell? ⟨w.heap.size, 0, none⟩ = some (.string name) ∧ w7.cell? ⟨w.heap.size, 1, none⟩ = some (.int .u32 code) ∧ w7.cell? ⟨w.heap.size, 2, none⟩ = some (.int .u32 vendor) ∧ w7.cell? ⟨w.heap.size, 3, none⟩ = some (.bool mand) ∧ w7.cell? ⟨w.heap.size, 4, none⟩ = some (.int .u8 typ) ∧ w7.cell? ⟨w.heap.size + 1, 0, none⟩ = some (.int .u64 0) ∧ w7.cell? ⟨w.heap.size + 1, 1, none⟩ = some (.int .u64 lo) ∧ w7.cell? ⟨w.heap.size + 1, 2, none⟩ = some (.pointer (some z)) := ⟨cellOf K7.out, cellOf K7.out, cellOf K7.out, cellOf K7.out, cellOf K7.out, cellOf I7.out, cellOf I7.out, cellOf I7.out⟩
         clear hg7))
  go_wp2
  refine bodyPost_ret (v := .agg #[.int .u32 code, .int .u8 (aflags vendor mand), .int .u32 vendor, .slice _ _ _]) (by simp [results, Ybad.results18, go_sem, f0, f1, f2, f3]; exact ⟨rfl, rfl, rfl⟩) rfl ⟨⟨_, _, _, rfl⟩, ?_⟩
  exact gfresh HG7.out (g4 _ _ _ _ _ _) (by omega)
end Go.Proofs.YbulkaptmDoor
