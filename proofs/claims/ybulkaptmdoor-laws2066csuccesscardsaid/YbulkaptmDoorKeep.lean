/-
  What a statement 'm.AVPs = append(m.AVPs, ..)' leaves as it was, and what it makes.
-/
import Derived.Test.YbulkaptmDoorMsg
import Derived.Test.YbulkaptmDoorLast
namespace Go.Proofs.YbulkaptmDoor
open Go.RowKit
set_option linter.unusedVariables false
set_option maxRecDepth 100000

theorem info41 : (Ybad.prog.info? 41).map (fun i => (i.zero, i.size, i.bytes)) = some (some (.agg #[.int .u32 0, .int .u8 0, .int .u32 0, .slice none 0 0]), 4, 40) := by kernel_rfl

theorem lt_of_block {w : World} {k : Nat} {o : Obj} (h : w.heap[k]? = some o) : k < w.heap.size := by
  rcases Nat.lt_or_ge k w.heap.size with hh | hh
  · exact hh
  · rw [Array.getElem?_eq_none hh] at h; cases h
theorem gweak {w w' : World} (h : w.grownBy w' none) (row : Option Nat) : w.grownBy w' row :=
  ⟨h.os, h.tape, h.output, h.size, fun k hk _ => h.block k hk (by simp)⟩
theorem gofBelow {w w' : World} (h : Below w.heap.size w w') : w.grownBy w' none :=
  ⟨h.os, h.tape, h.output, h.size, fun k hk _ => h.block k hk⟩
theorem gb {B : Nat} {w w1 w2 : World} (h : w.grownBy w1 none) (hs : B ≤ w.heap.size) (hb : Below B w1 w2) : Below B w w2 :=
  ⟨hb.os.trans h.os, hb.tape.trans h.tape, hb.output.trans h.output, Nat.le_trans h.size hb.size, fun k hk => (hb.block k hk).trans (h.block k (by omega) (by simp))⟩

/-- Every block is as it was, but rows of AVPs and the message's box. -/
structure Keep (p : Nat) (w w' : World) : Prop where
  blk : ∀ k c t f, w.heap[k]? = some (.cells c t f) → t ≠ 41 → k ≠ p → w'.heap[k]? = some (.cells c t f)

theorem Keep.trans {p : Nat} {w w1 w2 : World} (h : Keep p w w1) (h2 : Keep p w1 w2) : Keep p w w2 :=
  ⟨fun k c t f hk ht hp => h2.blk k c t f (h.blk k c t f hk ht hp) ht hp⟩
theorem Keep.of_grown {p : Nat} {w w1 : World} (h : w.grownBy w1 none) : Keep p w w1 := ⟨fun k c t f hk _ _ => gblockN h hk⟩
theorem U8s.keep {w w1 : World} {p : Nat} {da : Option Addr} {dl : Nat} {bs : List Int} {c : Array Value} {f : Nat × Nat} (h : U8s w da dl bs) (hp : w.heap[p]? = some (.cells c 37 f)) (hk : Keep p w w1) : U8s w1 da dl bs := by
  obtain ⟨h1, g, c', h2, h3, h4⟩ := h
  exact ⟨h1, g, c', h2, hk.blk g _ _ _ h3 (by decide) (by intro e; subst e; rw [h3] at hp; cases hp), h4⟩

/-- Behind 'm.AVPs = append(m.AVPs, news..)'. -/
def AppPost (w : World) (B p : Nat) (fl cmd app hop ete : Int) (avs news : List Av) (w' : World) : Prop :=
  ∃ sv', MsgSt w' B p fl cmd app hop ete sv' (avs ++ news) ∧ Keep p w w' ∧ Below B w w'

theorem app_post {w wA w4 : World} {B p g cap : Nat} {fl cmd app hop ete : Int} {sv : Value} {avs news : List Av} (h : MsgSt w B p fl cmd app hop ete sv avs) (hA : w.grownBy wA none)
    (hown : w4.ownsRow B 41 4 (.slice (some ⟨g, 0, none⟩) (avs.length + news.length) cap) (avs.length + news.length) (flat avs ++ flat news)) (hg : wA.grownBy w4 sv.ownBlock) :
    AppPost w B p fl cmd app hop ete avs news (w4.setCell ⟨p, 5, none⟩ (.slice (some ⟨g, 0, none⟩) (avs.length + news.length) cap)) := by
  have hm := (h.grow hA).appended hown hg
  refine ⟨_, hm.1, ⟨fun k c t f hk ht hp => ?_⟩, gb hA h.size hm.2⟩
  have hkA := gblockN hA hk
  exact gblock (gset w4 ⟨p, 5, none⟩ _) (gblock hg hkA (own_ne41 (h.grow hA).row hkA ht)) (by simpa using hp)

theorem news_flat {w w' : World} {avs : List Av} {f : Nat × Nat} (hb : w'.heap[w.heap.size]? = some (.cells (flat avs).toArray 41 f)) :
    ∀ j u, (flat avs)[j]? = some u → w'.cell? ((⟨w.heap.size, 0, none⟩ : Addr).add j) = some u := World.news_of_block hb
end Go.Proofs.YbulkaptmDoor
