/-
  The variables that are laid; AVPs in a row; a message under way; and the law on 'm.AVPs = append(m.AVPs, ..)'.
-/
import Derived.Test.YbulkaptmDoorFind
namespace Go.Proofs.YbulkaptmDoor
open Go.RowKit
set_option linter.unusedVariables false
set_option maxRecDepth 100000

/-- An attribute's variable. -/
structure GA (w : World) (k : Nat) (name : ByteArray) (code : Int) (mand : Bool) (typ : Int) : Prop where
  c0 : w.cell? ⟨k, 0, none⟩ = some (.string name)
  c1 : w.cell? ⟨k, 1, none⟩ = some (.int .u32 code)
  c2 : w.cell? ⟨k, 2, none⟩ = some (.int .u32 0)
  c3 : w.cell? ⟨k, 3, none⟩ = some (.bool mand)
  c4 : w.cell? ⟨k, 4, none⟩ = some (.int .u8 typ)

theorem GA.below {w w' : World} {k : Nat} {name : ByteArray} {code : Int} {mand : Bool} {typ : Int} (h : GA w k name code mand typ) (hb : Below 17 w w') (hk : k < 17) : GA w' k name code mand typ :=
  ⟨by rw [hb.cell (p := ⟨k, 0, none⟩) hk]; exact h.c0, by rw [hb.cell (p := ⟨k, 1, none⟩) hk]; exact h.c1, by rw [hb.cell (p := ⟨k, 2, none⟩) hk]; exact h.c2, by rw [hb.cell (p := ⟨k, 3, none⟩) hk]; exact h.c3, by rw [hb.cell (p := ⟨k, 4, none⟩) hk]; exact h.c4⟩

/-- The variables that are laid. -/
structure Globs (w : World) (nm : Nat → ByteArray) (z : Addr) : Prop where
  g0 : GA w 0 (nm 0) 268 true 4
  g1 : GA w 1 (nm 1) 257 true 8
  g2 : GA w 2 (nm 2) 266 true 4
  g3 : GA w 3 (nm 3) 269 false 1
  g4 : GA w 4 (nm 4) 278 true 4
  g6 : GA w 6 (nm 6) 263 true 1
  g7 : GA w 7 (nm 7) 264 true 2
  g8 : GA w 8 (nm 8) 296 true 2
  g9 : GA w 9 (nm 9) 297 true 9
  g10 : GA w 10 (nm 10) 298 true 4
  g11 : GA w 11 (nm 11) 279 true 9
  g13 : GA w 13 (nm 13) 265 true 4
  g14 : GA w 14 (nm 14) 258 true 4
  g15 : GA w 15 (nm 15) 260 true 9
  zs : Zs w z
  big : 17 ≤ w.heap.size

theorem Globs.below {w w' : World} {nm : Nat → ByteArray} {z : Addr} (h : Globs w nm z) (hb : Below 17 w w') : Globs w' nm z :=
  ⟨h.g0.below hb (by decide), h.g1.below hb (by decide), h.g2.below hb (by decide), h.g3.below hb (by decide), h.g4.below hb (by decide), h.g6.below hb (by decide), h.g7.below hb (by decide), h.g8.below hb (by decide), h.g9.below hb (by decide), h.g10.below hb (by decide), h.g11.below hb (by decide),
   h.g13.below hb (by decide), h.g14.below hb (by decide), h.g15.below hb (by decide), ⟨by rw [hb.cell (p := ⟨5, 0, none⟩) (by decide)]; exact h.zs.z4, by rw [hb.cell (p := ⟨16, 0, none⟩) (by decide)]; exact h.zs.z0⟩, Nat.le_trans h.big hb.size⟩
theorem gbelow {w w' : World} {row : Option Nat} {B : Nat} (hg : w.grownBy w' row) (hB : B ≤ w.heap.size) (hr : ∀ k, row = some k → B ≤ k) : Below B w w' :=
  ⟨hg.os, hg.tape, hg.output, hg.size, fun k hk => hg.block k (by omega) (by intro e; have := hr k e.symm; omega)⟩
theorem Globs.grow {w w' : World} {nm : Nat → ByteArray} {z : Addr} (h : Globs w nm z) (hg : w.grownBy w' none) : Globs w' nm z :=
  h.below (gbelow hg h.big (by intro k hk; cases hk))

/-- An AVP as data. -/
structure Av where
  code : Int
  flags : Int
  vendor : Int
  da : Option Addr
  dl : Nat
  dc : Nat
def Av.cells (a : Av) : List Value := [.int .u32 a.code, .int .u8 a.flags, .int .u32 a.vendor, .slice a.da a.dl a.dc]
def flat (avs : List Av) : List Value := avs.flatMap Av.cells
theorem flat_nil : flat [] = [] := rfl
theorem flat_append (a b : List Av) : flat (a ++ b) = flat a ++ flat b := by simp [flat]
theorem flat_length (avs : List Av) : (flat avs).length = avs.length * 4 := by
  induction avs with
  | nil => rfl
  | cons a r ih => simp only [flat, List.flatMap_cons, List.length_append, List.length_cons] at *; rw [ih]; simp [Av.cells]; omega
theorem flat_one (avs : List Av) : ∀ u ∈ flat avs, u.oneCell' = true := by
  intro u hu
  simp only [flat, List.mem_flatMap, Av.cells] at hu
  obtain ⟨a, _, hu⟩ := hu
  simp only [List.mem_cons, List.not_mem_nil, or_false] at hu
  rcases hu with rfl | rfl | rfl | rfl <;> rfl

theorem heap_set (w : World) (k j : Nat) (c : Array Value) (t : TypeId) (f : Nat × Nat) (u : Value) (h : w.heap[k]? = some (.cells c t f)) : (w.setCell ⟨k, j, none⟩ u).heap[k]? = some (.cells (c.setIfInBounds j u) t f) := by
  simp [World.setCell, Array.getElem?_modify, h]

/-- A message under way: its box, and the row of its AVPs. -/
structure MsgSt (w : World) (B p : Nat) (fl cmd app hop ete : Int) (sv : Value) (avs : List Av) : Prop where
  box : w.heap[p]? = some (.cells #[.int .u8 fl, .int .u32 cmd, .int .u32 app, .int .u32 hop, .int .u32 ete, sv] 37 (0, 0))
  row : w.ownsRow B 41 4 sv avs.length (flat avs)
  low : B ≤ p
  size : B ≤ w.heap.size

theorem own_ne41 {w : World} {B n k : Nat} {sv : Value} {xs : List Value} {c : Array Value} {t : TypeId} {f : Nat × Nat} (h : w.ownsRow B 41 4 sv n xs) (hk : w.heap[k]? = some (.cells c t f)) (ht : t ≠ 41) : some k ≠ sv.ownBlock := by
  intro e
  rcases h.2 with ⟨rfl, _⟩ | ⟨g, cap, cur, rfl, _, hg, _⟩
  · cases e
  · simp only [Value.ownBlock, Option.some.injEq] at e
    subst e
    rw [hg] at hk
    cases hk
    exact ht rfl

theorem MsgSt.grow {w w' : World} {B p : Nat} {fl cmd app hop ete : Int} {sv : Value} {avs : List Av} (h : MsgSt w B p fl cmd app hop ete sv avs) (hg : w.grownBy w' none) : MsgSt w' B p fl cmd app hop ete sv avs :=
  ⟨gblockN hg h.box, keptN h.row hg, h.low, Nat.le_trans h.size hg.size⟩

/-- THE LAW: behind the append and the store. -/
theorem MsgSt.appended {w w1 : World} {B p g cap : Nat} {fl cmd app hop ete : Int} {sv : Value} {avs news : List Av} (h : MsgSt w B p fl cmd app hop ete sv avs)
    (hown : w1.ownsRow B 41 4 (.slice (some ⟨g, 0, none⟩) (avs.length + news.length) cap) (avs.length + news.length) (flat avs ++ flat news)) (hg : w.grownBy w1 sv.ownBlock) :
    MsgSt (w1.setCell ⟨p, 5, none⟩ (.slice (some ⟨g, 0, none⟩) (avs.length + news.length) cap)) B p fl cmd app hop ete (.slice (some ⟨g, 0, none⟩) (avs.length + news.length) cap) (avs ++ news) ∧
      Below B w (w1.setCell ⟨p, 5, none⟩ (.slice (some ⟨g, 0, none⟩) (avs.length + news.length) cap)) := by
  have hp := own_ne41 h.row h.box (by decide)
  have hb1 := gblock hg h.box hp
  have hpg : some p ≠ (Value.slice (some ⟨g, 0, none⟩) (avs.length + news.length) cap).ownBlock := own_ne41 hown hb1 (by decide)
  refine ⟨⟨?_, ?_, h.low, ?_⟩, ?_⟩
  · rw [heap_set _ _ _ _ _ _ _ hb1]; rfl
  · rw [flat_append, List.length_append]
    exact hown.kept (gset _ _ _) (.inr (by simpa using fun e => hpg e.symm))
  · exact Nat.le_trans h.size (by simpa using hg.size)
  · refine (gbelow hg h.size ?_).setCell (by simpa using h.low) _
    intro k hk
    exact (h.row.lt _ hk).1

/-- A slice of bytes outlives it. -/
theorem U8s.appended {w w1 : World} {B p n : Nat} {sv u : Value} {xs : List Value} {da : Option Addr} {dl : Nat} {bs : List Int} (h : U8s w da dl bs) {c : Array Value} {f : Nat × Nat} (hp : w.heap[p]? = some (.cells c 37 f))
    (hr : w.ownsRow B 41 4 sv n xs) (hg : w.grownBy w1 sv.ownBlock) : U8s (w1.setCell ⟨p, 5, none⟩ u) da dl bs := by
  obtain ⟨h1, g, c', h2, h3, h4⟩ := h
  have e1 := gblock hg h3 (own_ne41 hr h3 (by decide))
  have hp1 := gblock hg hp (own_ne41 hr hp (by decide))
  refine ⟨h1, g, c', h2, gblock (gset w1 ⟨p, 5, none⟩ u) e1 ?_, h4⟩
  intro e
  cases e
  rw [e1] at hp1
  cases hp1
end Go.Proofs.YbulkaptmDoor
