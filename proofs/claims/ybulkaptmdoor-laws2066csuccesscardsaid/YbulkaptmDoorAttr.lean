/-
  Attributes that make AVPs: (f27) AppendUint32 onto nil, (f17) Uint32, (f20) Text, (f30) AppendUint16 onto nil, (f18) Address.
-/
import Derived.Test.YbulkaptmDoorAddr
import Derived.Lib.ConvBytes
namespace Go.Proofs.YbulkaptmDoor
open Go.RowKit
set_option linter.unusedVariables false
set_option maxRecDepth 100000

/-- A slice of bytes in a block of its own that begins with 'bs', and is as long. -/
def U8s (w : World) (da : Option Addr) (dl : Nat) (bs : List Int) : Prop :=
  dl = bs.length ∧ ∃ g c, da = some ⟨g, 0, none⟩ ∧ w.heap[g]? = some (.cells c 5 (0, 0)) ∧ c.toList.take bs.length = bs.map (Value.int .u8)

theorem U8s.grow {w w' : World} {da : Option Addr} {dl : Nat} {bs : List Int} (h : U8s w da dl bs) (hg : w.grownBy w' none) : U8s w' da dl bs := by
  obtain ⟨h1, g, c, h2, h3, h4⟩ := h
  exact ⟨h1, g, c, h2, gblockN hg h3, h4⟩
theorem U8s.frame {w w' : World} {da : Option Addr} {dl k : Nat} {bs : List Int} {c : Array Value} {t : TypeId} {f : Nat × Nat} (h : U8s w da dl bs) (hg : w.grownBy w' (some k)) (hk : w.heap[k]? = some (.cells c t f)) (ht : t ≠ 5) : U8s w' da dl bs := by
  obtain ⟨h1, g, c', h2, h3, h4⟩ := h
  refine ⟨h1, g, c', h2, gblock hg h3 ?_, h4⟩
  intro e
  cases e
  rw [h3] at hk
  cases hk
  exact ht rfl
theorem g4 (w : World) (k : Nat) (a b c d : Value) : w.grownBy ((((w.setCell ⟨k, 0, none⟩ a).setCell ⟨k, 1, none⟩ b).setCell ⟨k, 2, none⟩ c).setCell ⟨k, 3, none⟩ d) (some k) :=
  gtrans (gtrans (gtrans (gset w _ _) (gset _ _ _)) (gset _ _ _)) (gset _ _ _)
theorem u8s_of_owns {w : World} {B n : Nat} {sv : Value} {bs : List Int} (h : w.ownsRow B 5 1 sv n (bs.map (Value.int .u8))) (hn : 0 < n) :
    ∃ da dc, sv = .slice da n dc ∧ U8s w da n bs := by
  have hl : bs.length = n := by simpa using h.1
  rcases h.2 with ⟨_, h0⟩ | ⟨g, cap, cur, hv, hb, hg, hnc, hcm, hcs, htake⟩
  · omega
  · exact ⟨_, _, hv, hl.symm, g, cur, rfl, hg, by rw [hl]; simpa using htake⟩

/-- An attribute as a value. -/
structure Attr where
  name : ByteArray
  code : Int
  vendor : Int
  mand : Bool
  typ : Int
def Attr.v (a : Attr) : Value := .agg #[.string a.name, .int .u32 a.code, .int .u32 a.vendor, .bool a.mand, .int .u8 a.typ]

set_option maxHeartbeats 800000 in
/-- (f27) AppendUint32 onto nil. -/
theorem appendU32_nil (v : Int) (hv0 : 0 ≤ v) (hv1 : v < 4294967296) (w : World) :
    Calls Ybad.prog 27 #[.agg #[], .slice none 0 0, .int .u32 v] w fun e w' => (∃ da dc, e = .returned (.slice da 4 dc) ∧ U8s w' da 4 (be32 v)) ∧ w.grownBy w' none := by
  obtain ⟨i0, hi, hz0, hz1, hz2⟩ := info_parts info5
  have HO : Hid (w.ownsRow 0 5 1 (.slice none 0 0) 0 []) := ⟨rfl, .inl ⟨rfl, rfl⟩⟩
  go_enter Ybad.func27, Ybad.ntmps27
  go_wp2_with (at_builtin; refine wpList_append_own _ rfl _ _ 23 rfl 0 5 i0 (.int .u8 0) 1 1 Ybad.underlying23 hi hz0 hz1 hz2 rfl (by decide) _ _ _ rfl ((HO.out.alloc _).alloc _) ⟨w.heap.size + 1, 0, none⟩ 4 4 ((be32 v).map (Value.int .u8)) rfl rfl ?c1 ?c2 ?c3 ?c4 ?c5 ?_)
  case c1 =>
    intro j u hj
    match j, hj with
    | 0, hj => simp [be32] at hj; subst hj; simp [Addr.add]
    | 1, hj => simp [be32] at hj; subst hj; simp [Addr.add]
    | 2, hj => simp [be32] at hj; subst hj; simp [Addr.add]
    | 3, hj => simp [be32] at hj; subst hj; simp [Addr.add]
    | j + 4, hj => simp [be32] at hj
  case c2 => exact ints_oneCell _ _
  case c3 => unfold maxLen; omega
  case c4 => omega
  case c5 => simp
  intro sv' w1 hown1 hg1 _
  have HB : Hid (w.grownBy w1 none) := gtrans (gtrans (World.grownBy_alloc _ _ _) (World.grownBy_alloc _ _ _)) hg1
  obtain ⟨da, dc, rfl, hu⟩ := u8s_of_owns (by simpa using hown1) (by omega)
  have HU : Hid (U8s w1 da 4 (be32 v)) := by show U8s w1 da 4 (be32 v); simpa using hu
  clear hown1 hg1 HO hu
  go_wp2
  go_ret
  exact ⟨⟨_, _, rfl, HU.out⟩, HB.out⟩

set_option maxHeartbeats 800000 in
/-- (f17) Uint32. -/
theorem attrU32 (name : ByteArray) (code vendor typ : Int) (mand : Bool) (v : Int) (hv0 : 0 ≤ v) (hv1 : v < 4294967296) (w : World) :
    Calls Ybad.prog 17 #[.agg #[.string name, .int .u32 code, .int .u32 vendor, .bool mand, .int .u8 typ], .int .u32 v] w fun e w' =>
      (∃ da dc, e = .returned (.agg #[.int .u32 code, .int .u8 (aflags vendor mand), .int .u32 vendor, .slice da 4 dc]) ∧ U8s w' da 4 (be32 v)) ∧ w.grownBy w' none := by
  go_enter Ybad.func17, Ybad.ntmps17
  go_wp2_with fail
  obtain ⟨W, hW⟩ : ∃ W, W = ((w.alloc (.cells #[.string name, .int .u32 code, .int .u32 vendor, .bool mand, .int .u8 typ] 122)).alloc (.cells #[.int .u32 0, .int .u8 0, .int .u32 0, .slice none 0 0] 41)) := ⟨_, rfl⟩
  rw [← hW]
  have K0 : Hid (W.heap[w.heap.size]? = some (.cells #[.string name, .int .u32 code, .int .u32 vendor, .bool mand, .int .u8 typ] 122 (0, 0))) := by
    show W.heap[w.heap.size]? = _
    rw [hW, Below.heap_alloc _ _ _ (by simp)]
    exact heap_alloc_new _ _
  have L0 : Hid (W.heap[w.heap.size + 1]? = some (.cells #[.int .u32 0, .int .u8 0, .int .u32 0, .slice none 0 0] 41 (0, 0))) := by
    show W.heap[w.heap.size + 1]? = _
    rw [hW]
    have := heap_alloc_new (w.alloc (.cells #[.string name, .int .u32 code, .int .u32 vendor, .bool mand, .int .u8 typ] 122)) (.cells #[.int .u32 0, .int .u8 0, .int .u32 0, .slice none 0 0] 41)
    simpa using this
  have HG : Hid (w.grownBy W none) := by show w.grownBy W none; rw [hW]; exact gtrans (World.grownBy_alloc _ _ _) (World.grownBy_alloc _ _ _)
  have k0 : W.cell? ⟨w.heap.size, 0, none⟩ = some (.string name) := cellOf K0.out
  have k1 : W.cell? ⟨w.heap.size, 1, none⟩ = some (.int .u32 code) := cellOf K0.out
  have k2 : W.cell? ⟨w.heap.size, 2, none⟩ = some (.int .u32 vendor) := cellOf K0.out
  have k3 : W.cell? ⟨w.heap.size, 3, none⟩ = some (.bool mand) := cellOf K0.out
  have k4 : W.cell? ⟨w.heap.size, 4, none⟩ = some (.int .u8 typ) := cellOf K0.out
  clear hW
  go_region_held3 (fun w' => w'.cell? ⟨w.heap.size, 0, none⟩ = some (.string name) ∧ w'.cell? ⟨w.heap.size, 1, none⟩ = some (.int .u32 code) ∧ w'.cell? ⟨w.heap.size, 2, none⟩ = some (.int .u32 vendor) ∧ w'.cell? ⟨w.heap.size, 3, none⟩ = some (.bool mand) ∧ w'.cell? ⟨w.heap.size, 4, none⟩ = some (.int .u8 typ))
    (first | with_reducible assumption | go_keep)
    (first
      | (go_at_call 27; refine (appendU32_nil v hv0 hv1 _).mono ?_; rintro e w1 ⟨⟨da, dc, rfl, hu1⟩, hg1⟩; have K1 : Hid (w1.heap[w.heap.size]? = _) := gblockN hg1 K0.out; have HU1 : Hid (U8s w1 da 4 (be32 v)) := hu1; have HG1 : Hid (w.grownBy w1 none) := gtrans HG.out (gtrans (gdrew _ _) hg1); have L1 : Hid (w1.heap[w.heap.size + 1]? = _) := gblockN hg1 L0.out; clear hu1 hg1; have S_w1 : w1.cell? ⟨w.heap.size, 0, none⟩ = some (.string name) ∧ w1.cell? ⟨w.heap.size, 1, none⟩ = some (.int .u32 code) ∧ w1.cell? ⟨w.heap.size, 2, none⟩ = some (.int .u32 vendor) ∧ w1.cell? ⟨w.heap.size, 3, none⟩ = some (.bool mand) ∧ w1.cell? ⟨w.heap.size, 4, none⟩ = some (.int .u8 typ) := ⟨cellOf K1.out, cellOf K1.out, cellOf K1.out, cellOf K1.out, cellOf K1.out⟩)
      | (go_at_call 26; refine (avp_any name code vendor typ mand da 4 dc _).mono ?_; rintro e w2 ⟨rfl, hg2⟩; have K2 : Hid (w2.heap[w.heap.size]? = _) := gblockN hg2 K1.out; have HU2 : Hid (U8s w2 da 4 (be32 v)) := HU1.out.grow hg2; have HG2 : Hid (w.grownBy w2 none) := gtrans HG1.out hg2; have L2 : Hid (w2.heap[w.heap.size + 1]? = _) := gblockN hg2 L1.out; clear hg2; have S_w2 : w2.cell? ⟨w.heap.size, 0, none⟩ = some (.string name) ∧ w2.cell? ⟨w.heap.size, 1, none⟩ = some (.int .u32 code) ∧ w2.cell? ⟨w.heap.size, 2, none⟩ = some (.int .u32 vendor) ∧ w2.cell? ⟨w.heap.size, 3, none⟩ = some (.bool mand) ∧ w2.cell? ⟨w.heap.size, 4, none⟩ = some (.int .u8 typ) := ⟨cellOf K2.out, cellOf K2.out, cellOf K2.out, cellOf K2.out, cellOf K2.out⟩
         have f0 : w2.cell? ⟨w.heap.size + 1, 0, none⟩ = some (.int .u32 0) := cellOf L2.out; have f1 : w2.cell? ⟨w.heap.size + 1, 1, none⟩ = some (.int .u8 0) := cellOf L2.out; have f2 : w2.cell? ⟨w.heap.size + 1, 2, none⟩ = some (.int .u32 0) := cellOf L2.out; have f3 : w2.cell? ⟨w.heap.size + 1, 3, none⟩ = some (.slice none 0 0) := cellOf L2.out
         have z0 : w2.frozen? ⟨w.heap.size + 1, 0, none⟩ = false := frozenOf L2.out; have z1 : w2.frozen? ⟨w.heap.size + 1, 1, none⟩ = false := frozenOf L2.out; have z2 : w2.frozen? ⟨w.heap.size + 1, 2, none⟩ = false := frozenOf L2.out; have z3 : w2.frozen? ⟨w.heap.size + 1, 3, none⟩ = false := frozenOf L2.out))
  go_wp2
  refine bodyPost_ret (v := .agg #[.int .u32 code, .int .u8 (aflags vendor mand), .int .u32 vendor, .slice da 4 dc]) (by simp [results, Ybad.results17, go_sem, f0, f1, f2, f3]) rfl ⟨⟨da, dc, rfl, ?_⟩, ?_⟩
  · exact HU2.out.frame (g4 _ _ _ _ _ _) L2.out (by decide)
  · exact gfresh HG2.out (g4 _ _ _ _ _ _) (by omega)

theorem gbytes (w : World) (s : ByteArray) (row : Option Nat) : w.grownBy (Lib.bytesWorld w 5 s) row :=
  ⟨rfl, rfl, rfl, by rw [Lib.bytesWorld_size]; omega, fun k hk _ => Lib.bytesWorld_at_old w 5 s k hk⟩

set_option maxHeartbeats 800000 in
/-- (f20) Text. -/
theorem attrText (name : ByteArray) (code vendor typ : Int) (mand : Bool) (s : ByteArray) (w : World) :
    Calls Ybad.prog 20 #[.agg #[.string name, .int .u32 code, .int .u32 vendor, .bool mand, .int .u8 typ], .string s] w fun e w' =>
      (∃ da dl dc, e = .returned (.agg #[.int .u32 code, .int .u8 (aflags vendor mand), .int .u32 vendor, .slice da dl dc])) ∧ w.grownBy w' none := by
  have C : ∀ w, (convert 9 23 (.string s)).run Ybad.prog w = .ok (.slice (some ⟨w.heap.size, 0, none⟩) s.size (grownCap w s.size 0 5)) (Lib.bytesWorld w 5 s) :=
    fun w => Lib.run_convert_string_bytes w 9 23 5 s Ybad.underlying9 Ybad.underlying23 Ybad.underlying5
  go_enter Ybad.func20, Ybad.ntmps20
  go_wp2_with fail
  refine (avp_any name code vendor typ mand _ _ _ _).mono ?_
  rintro e w2 ⟨rfl, hg2⟩
  have L2 : Hid (w2.heap[w.heap.size + 1]? = some (.cells #[.int .u32 0, .int .u8 0, .int .u32 0, .slice none 0 0] 41 (0, 0))) := by
    refine gblockN hg2 (gblockN (gbytes _ _ _) ?_)
    have := heap_alloc_new (w.alloc (.cells #[.string name, .int .u32 code, .int .u32 vendor, .bool mand, .int .u8 typ] 122)) (.cells #[.int .u32 0, .int .u8 0, .int .u32 0, .slice none 0 0] 41)
    simpa using this
  have HG2 : Hid (w.grownBy w2 none) := gtrans (gtrans (gtrans (World.grownBy_alloc _ _ _) (World.grownBy_alloc _ _ _)) (gbytes _ _ _)) hg2
  have f0 : w2.cell? ⟨w.heap.size + 1, 0, none⟩ = some (.int .u32 0) := cellOf L2.out
  have f1 : w2.cell? ⟨w.heap.size + 1, 1, none⟩ = some (.int .u8 0) := cellOf L2.out
  have f2 : w2.cell? ⟨w.heap.size + 1, 2, none⟩ = some (.int .u32 0) := cellOf L2.out
  have f3 : w2.cell? ⟨w.heap.size + 1, 3, none⟩ = some (.slice none 0 0) := cellOf L2.out
  have z0 : w2.frozen? ⟨w.heap.size + 1, 0, none⟩ = false := frozenOf L2.out
  have z1 : w2.frozen? ⟨w.heap.size + 1, 1, none⟩ = false := frozenOf L2.out
  have z2 : w2.frozen? ⟨w.heap.size + 1, 2, none⟩ = false := frozenOf L2.out
  have z3 : w2.frozen? ⟨w.heap.size + 1, 3, none⟩ = false := frozenOf L2.out
  clear hg2 C
  go_wp2
  refine bodyPost_ret (v := .agg #[.int .u32 code, .int .u8 (aflags vendor mand), .int .u32 vendor, .slice _ _ _]) (by simp [results, Ybad.results20, go_sem, f0, f1, f2, f3]; exact ⟨rfl, rfl, rfl⟩) rfl ⟨⟨_, _, _, rfl⟩, ?_⟩
  exact gfresh HG2.out (g4 _ _ _ _ _ _) (by omega)

set_option maxHeartbeats 800000 in
/-- (f30) AppendUint16 onto nil: the row is the call's own. -/
theorem appendU16_nil (v : Int) (hv0 : 0 ≤ v) (hv1 : v < 65536) (w : World) :
    Calls Ybad.prog 30 #[.agg #[], .slice none 0 0, .int .u16 v] w fun e w' => (∃ sv a b, e = .returned sv ∧ w'.ownsRow w.heap.size 5 1 sv 2 [.int .u8 a, .int .u8 b]) ∧ w.grownBy w' none := by
  obtain ⟨i0, hi, hz0, hz1, hz2⟩ := info_parts info5
  have HO : Hid (w.ownsRow w.heap.size 5 1 (.slice none 0 0) 0 []) := ⟨rfl, .inl ⟨rfl, rfl⟩⟩
  go_enter Ybad.func30, Ybad.ntmps30
  go_wp2_with (at_builtin; refine wpList_append_own _ rfl _ _ 23 rfl w.heap.size 5 i0 (.int .u8 0) 1 1 Ybad.underlying23 hi hz0 hz1 hz2 rfl (by decide) _ _ _ rfl ((HO.out.alloc _).alloc _) ⟨w.heap.size + 1, 0, none⟩ 2 2 ([v / 256, v % 256].map (Value.int .u8)) rfl rfl ?c1 ?c2 ?c3 ?c4 ?c5 ?_)
  case c1 =>
    intro j u hj
    match j, hj with
    | 0, hj => simp at hj; subst hj; simp [Addr.add]
    | 1, hj => simp at hj; subst hj; simp [Addr.add]
    | j + 2, hj => simp at hj
  case c2 => exact ints_oneCell _ _
  case c3 => unfold maxLen; omega
  case c4 => omega
  case c5 => simp; omega
  intro sv' w1 hown1 hg1 _
  have HB : Hid (w.grownBy w1 none) := gtrans (gtrans (World.grownBy_alloc _ _ _) (World.grownBy_alloc _ _ _)) hg1
  have HU : Hid (w1.ownsRow w.heap.size 5 1 sv' 2 [.int .u8 (v / 256), .int .u8 (v % 256)]) := by show w1.ownsRow _ _ _ _ _ _; simpa using hown1
  clear hown1 hg1 HO
  go_wp2
  go_ret
  exact ⟨⟨_, _, _, rfl, HU.out⟩, HB.out⟩
end Go.Proofs.YbulkaptmDoor
