/-
  The connection and its server; what Group asks of AVPs that Uint32 made.
-/
import Derived.Test.YbulkaptmDoorKeep
namespace Go.Proofs.YbulkaptmDoor
open Go.RowKit
set_option linter.unusedVariables false
set_option maxRecDepth 100000

/-- A connection's box and its server's box. -/
structure Srv (w : World) (c s : Nat) (host realm prod : ByteArray) (st lo port : Int) (z : Addr) (apps : Value) : Prop where
  cb : ∃ cc, w.heap[c]? = some (.cells cc 117 (0, 0)) ∧ cc[0]? = some (.pointer (some ⟨s, 0, none⟩)) ∧ cc[3]? = some (.int .u64 0) ∧ cc[4]? = some (.int .u64 lo) ∧ cc[5]? = some (.pointer (some z)) ∧ cc[6]? = some (.int .u16 port)
  sb : ∃ sc, w.heap[s]? = some (.cells sc 88 (0, 0)) ∧ sc[0]? = some (.string host) ∧ sc[1]? = some (.string realm) ∧ sc[2]? = some (.string prod) ∧ sc[10]? = some (.int .u32 st) ∧ sc[17]? = some apps

theorem Srv.of_blocks {w w' : World} {c s : Nat} {host realm prod : ByteArray} {st lo port : Int} {z : Addr} {apps : Value} (h : Srv w c s host realm prod st lo port z apps)
    (hk : ∀ (k : Nat) (cs : Array Value) (t : TypeId) (f : Nat × Nat), w.heap[k]? = some (Obj.cells cs t f) → (t = 117 ∨ t = 88) → w'.heap[k]? = some (Obj.cells cs t f)) : Srv w' c s host realm prod st lo port z apps := by
  obtain ⟨⟨cc, h1, h2⟩, ⟨sc, h3, h4⟩⟩ := h
  exact ⟨⟨cc, hk _ _ _ _ h1 (.inl rfl), h2⟩, ⟨sc, hk _ _ _ _ h3 (.inr rfl), h4⟩⟩
theorem Srv.grow {w w' : World} {c s : Nat} {host realm prod : ByteArray} {st lo port : Int} {z : Addr} {apps : Value} (h : Srv w c s host realm prod st lo port z apps) (hg : w.grownBy w' none) : Srv w' c s host realm prod st lo port z apps :=
  h.of_blocks (fun k cs t f hk _ => gblockN hg hk)
theorem Srv.own {w w' : World} {B n : Nat} {sv : Value} {xs : List Value} {c s : Nat} {host realm prod : ByteArray} {st lo port : Int} {z : Addr} {apps : Value} (h : Srv w c s host realm prod st lo port z apps) (hr : w.ownsRow B 41 4 sv n xs) (hg : w.grownBy w' sv.ownBlock) : Srv w' c s host realm prod st lo port z apps :=
  h.of_blocks (fun k cs t f hk ht => gblock hg hk (own_ne41 hr hk (by rcases ht with rfl | rfl <;> decide)))
theorem Srv.keep {w w' : World} {p : Nat} {cp : Array Value} {fp : Nat × Nat} {c s : Nat} {host realm prod : ByteArray} {st lo port : Int} {z : Addr} {apps : Value} (h : Srv w c s host realm prod st lo port z apps) (hp : w.heap[p]? = some (.cells cp 37 fp)) (hg : Keep p w w') : Srv w' c s host realm prod st lo port z apps :=
  h.of_blocks (fun k cs t f hk ht => hg.blk k cs t f hk (by rcases ht with rfl | rfl <;> decide) (by intro e; subst e; rw [hk] at hp; cases hp; rcases ht with ht | ht <;> cases ht))

theorem Srv.c0 {w : World} {c s : Nat} {host realm prod : ByteArray} {st lo port : Int} {z : Addr} {apps : Value} (h : Srv w c s host realm prod st lo port z apps) : w.cell? ⟨c, 0, none⟩ = some (.pointer (some ⟨s, 0, none⟩)) := by obtain ⟨⟨cc, h1, h2, _⟩, _⟩ := h; rw [cellOf h1, h2]
theorem Srv.c3 {w : World} {c s : Nat} {host realm prod : ByteArray} {st lo port : Int} {z : Addr} {apps : Value} (h : Srv w c s host realm prod st lo port z apps) : w.cell? ⟨c, 3, none⟩ = some (.int .u64 0) := by obtain ⟨⟨cc, h1, _, h2, _⟩, _⟩ := h; rw [cellOf h1, h2]
theorem Srv.c4 {w : World} {c s : Nat} {host realm prod : ByteArray} {st lo port : Int} {z : Addr} {apps : Value} (h : Srv w c s host realm prod st lo port z apps) : w.cell? ⟨c, 4, none⟩ = some (.int .u64 lo) := by obtain ⟨⟨cc, h1, _, _, h2, _⟩, _⟩ := h; rw [cellOf h1, h2]
theorem Srv.c5 {w : World} {c s : Nat} {host realm prod : ByteArray} {st lo port : Int} {z : Addr} {apps : Value} (h : Srv w c s host realm prod st lo port z apps) : w.cell? ⟨c, 5, none⟩ = some (.pointer (some z)) := by obtain ⟨⟨cc, h1, _, _, _, h2, _⟩, _⟩ := h; rw [cellOf h1, h2]
theorem Srv.c6 {w : World} {c s : Nat} {host realm prod : ByteArray} {st lo port : Int} {z : Addr} {apps : Value} (h : Srv w c s host realm prod st lo port z apps) : w.cell? ⟨c, 6, none⟩ = some (.int .u16 port) := by obtain ⟨⟨cc, h1, _, _, _, _, h2⟩, _⟩ := h; rw [cellOf h1, h2]
theorem Srv.s0 {w : World} {c s : Nat} {host realm prod : ByteArray} {st lo port : Int} {z : Addr} {apps : Value} (h : Srv w c s host realm prod st lo port z apps) : w.cell? ⟨s, 0, none⟩ = some (.string host) := by obtain ⟨_, ⟨cc, h1, h2, _⟩⟩ := h; rw [cellOf h1, h2]
theorem Srv.s1 {w : World} {c s : Nat} {host realm prod : ByteArray} {st lo port : Int} {z : Addr} {apps : Value} (h : Srv w c s host realm prod st lo port z apps) : w.cell? ⟨s, 1, none⟩ = some (.string realm) := by obtain ⟨_, ⟨cc, h1, _, h2, _⟩⟩ := h; rw [cellOf h1, h2]
theorem Srv.s2 {w : World} {c s : Nat} {host realm prod : ByteArray} {st lo port : Int} {z : Addr} {apps : Value} (h : Srv w c s host realm prod st lo port z apps) : w.cell? ⟨s, 2, none⟩ = some (.string prod) := by obtain ⟨_, ⟨cc, h1, _, _, h2, _⟩⟩ := h; rw [cellOf h1, h2]
theorem Srv.s10 {w : World} {c s : Nat} {host realm prod : ByteArray} {st lo port : Int} {z : Addr} {apps : Value} (h : Srv w c s host realm prod st lo port z apps) : w.cell? ⟨s, 10, none⟩ = some (.int .u32 st) := by obtain ⟨_, ⟨cc, h1, _, _, _, h2, _⟩⟩ := h; rw [cellOf h1, h2]
theorem Srv.s17 {w : World} {c s : Nat} {host realm prod : ByteArray} {st lo port : Int} {z : Addr} {apps : Value} (h : Srv w c s host realm prod st lo port z apps) : w.cell? ⟨s, 17, none⟩ = some apps := by obtain ⟨_, ⟨cc, h1, _, _, _, _, h2⟩⟩ := h; rw [cellOf h1, h2]

theorem be32_bytes (v : Int) (h0 : 0 ≤ v) (h1 : v < 4294967296) : ∀ n ∈ be32 v, (Lit.int .u8 n).wf = true := by
  intro n hn
  simp only [be32, List.mem_cons, List.not_mem_nil, or_false] at hn
  have : 0 ≤ n ∧ n ≤ 255 := by rcases hn with rfl | rfl | rfl | rfl <;> omega
  simp [Lit.wf, IntKind.min, IntKind.max, IntKind.bits, IntKind.signed, this.1]
  omega
theorem U8s.isRow {w : World} {da : Option Addr} {v : Int} (h : U8s w da 4 (be32 v)) (h0 : 0 ≤ v) (h1 : v < 4294967296) : IsRow .u8 w da 4 4 (be32 v) := by
  obtain ⟨g, rfl, hg, hc⟩ := h.cells
  refine .inr ⟨⟨g, 0, none⟩, rfl, Nat.le_refl _, by unfold maxLen; omega, rfl, ?_, be32_bytes v h0 h1⟩
  intro i hi
  have := hc i hi
  have ea : (⟨g, 0, none⟩ : Addr).add i = ⟨g, i, none⟩ := by
    by_cases h : i = 0
    · subst h; simp [Addr.add]
    · simp [Addr.add, h]
  rw [ea, List.getD_eq_getElem?_getD, List.getElem?_eq_getElem hi, Option.getD_some]
  exact this
theorem aflags_ok (mand : Bool) : 0 ≤ aflags 0 mand ∧ aflags 0 mand ≤ 255 := by cases mand <;> decide
/-- The AVP that Uint32 made, for Group. -/
theorem avp_fits {w : World} {da : Option Addr} {dc : Nat} {v code : Int} (mand : Bool) (h : U8s w da 4 (be32 v)) (h0 : 0 ≤ v) (h1 : v < 4294967296) (c0 : 0 ≤ code) (c1 : code < 4294967296) :
    (⟨code, aflags 0 mand, 0, da, 4, dc, be32 v⟩ : Avp).Fits w :=
  ⟨c0, c1, (aflags_ok mand).1, (aflags_ok mand).2, by show (0 : Int) ≤ 0; omega, by show (0 : Int) < 4294967296; omega, h.isRow h0 h1, by obtain ⟨_, g, _, rfl, _⟩ := h; intro e; cases e⟩
theorem avp_at {w : World} {b o : Nat} {c : Array Value} {a : Avp} (h : w.heap[b]? = some (.cells c 41 (0, 0))) (h0 : c[o]? = some (.int .u32 a.code)) (h1 : c[o + 1]? = some (.int .u8 a.flags)) (h2 : c[o + 2]? = some (.int .u32 a.vendor)) (h3 : c[o + 3]? = some (.slice a.da a.dl a.dc)) : a.At w b o :=
  ⟨by rw [cellOf h, h0], by rw [cellOf h, h1], by rw [cellOf h, h2], by rw [cellOf h, h3]⟩
end Go.Proofs.YbulkaptmDoor
