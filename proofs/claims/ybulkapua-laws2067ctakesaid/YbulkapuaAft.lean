/-
  take, as the law LawS2067CTake sees it.
-/
import Derived.Test.YbulkapuaPos
namespace Go.Proofs.Ybulkapua
open Go.RowKit
set_option linter.unusedVariables false
set_option linter.unusedSimpArgs false
set_option maxRecDepth 100000

/-- What the chooser's scores are behind lookAt. -/
def newYs (best : Int) (xs ys : List Int) : List Int := if 0 ≤ best then xs.take (min xs.length ys.length) ++ ys.drop (min xs.length ys.length) else ys

/-- Ahead of take. -/
structure Bef (W w : World) (c k m b g n l : Nat) (best : Int) (cs : List Value) (xs ys : List Int) : Prop where
  C : w.heap[c]? = some (.cells #[.int .i32 0, .int .u32 0, .slice (some ⟨m, 0, none⟩) n n, .int .i64 l, .int .i64 best, .slice (some ⟨b, 0, none⟩) xs.length xs.length, .bool false] 41 (0, 0))
  h23 : ∃ v, w.cell? ⟨k, 23, none⟩ = some (.int .i64 v)
  h25 : w.cell? ⟨k, 25, none⟩ = some (.slice (some ⟨g, 0, none⟩) ys.length ys.length)
  z23 : w.frozen? ⟨k, 23, none⟩ = false
  M : w.heap[m]? = some (.cells cs.toArray 3 (0, 0))
  B : w.heap[b]? = some (.cells (flatR xs).toArray 30 (0, 0))
  G : w.heap[g]? = some (.cells (flatR ys).toArray 30 (0, 0))
  bel : Below W.heap.size W w
  o1 : W.heap.size ≤ m
  o2 : m < b
  o3 : b < g
  o4 : g < c
  o5 : c < k

/-- Behind take. -/
structure Aft (W w : World) (c k m b g f : Nat) (best : Int) (cs : List Value) (xs ys : List Int) : Prop where
  h3 : w.cell? ⟨c, 3, none⟩ = some (.int .i64 f)
  h4 : w.cell? ⟨c, 4, none⟩ = some (.int .i64 best)
  h23 : w.cell? ⟨k, 23, none⟩ = some (.int .i64 best)
  M : w.heap[m]? = some (.cells cs.toArray 3 (0, 0))
  B : w.heap[b]? = some (.cells (flatR xs).toArray 30 (0, 0))
  G : w.heap[g]? = some (.cells (flatR (newYs best xs ys)).toArray 30 (0, 0))
  bel : Below W.heap.size W w

theorem cellOf {w : World} {k j : Nat} {c : Array Value} {t : TypeId} (hk : w.heap[k]? = some (.cells c t (0, 0))) : w.cell? ⟨k, j, none⟩ = c[j]? := by
  simp [World.cell?, hk]
theorem frozenOf {w : World} {k j : Nat} {c : Array Value} {t : TypeId} (hk : w.heap[k]? = some (.cells c t (0, 0))) : w.frozen? ⟨k, j, none⟩ = false := by
  simp [World.frozen?, hk]

/-- From what lookAt leaves to what take leaves. -/
theorem aft_of {W w2 : World} {c k m b g n l f : Nat} {best : Int} {cs : List Value} {xs ys : List Int} {d : Value} {e1 : Value} (q : Nat)
    (C : w2.heap[c]? = some (.cells #[.int .i32 1, .int .u32 0, .slice (some ⟨m, 0, none⟩) n n, .int .i64 l, .int .i64 best, d, e1] 41 (0, 0))) (h23 : w2.cell? ⟨k, 23, none⟩ = some (.int .i64 best))
    (M : w2.heap[m]? = some (.cells cs.toArray 3 (0, 0))) (B : w2.heap[b]? = some (.cells (flatR xs).toArray 30 (0, 0))) (G : w2.heap[g]? = some (.cells (flatR (newYs best xs ys)).toArray 30 (0, 0)))
    (bel : Below W.heap.size W w2) (o1 : W.heap.size ≤ m) (o2 : m < b) (o3 : b < g) (o4 : g < c) (o5 : c < k) :
    Aft W (((w2.setCell ⟨c, 3, none⟩ (.int .i64 (f : Int))).setCell ⟨c, 0, none⟩ (.int .i32 0)).drewN q) c k m b g f best cs xs ys := by
  have hC := heap_set _ _ 0 _ _ _ (.int .i32 0) (heap_set w2 c 3 _ _ _ (.int .i64 (f : Int)) C)
  have hC' : (((w2.setCell ⟨c, 3, none⟩ (.int .i64 (f : Int))).setCell ⟨c, 0, none⟩ (.int .i32 0)).drewN q).heap[c]? = some (.cells #[.int .i32 0, .int .u32 0, .slice (some ⟨m, 0, none⟩) n n, .int .i64 f, .int .i64 best, d, e1] 41 (0, 0)) := hC
  have oth : ∀ i, i ≠ c → (((w2.setCell ⟨c, 3, none⟩ (.int .i64 (f : Int))).setCell ⟨c, 0, none⟩ (.int .i32 0)).drewN q).heap[i]? = w2.heap[i]? := by
    intro i hi
    show ((w2.setCell ⟨c, 3, none⟩ (.int .i64 (f : Int))).setCell ⟨c, 0, none⟩ (.int .i32 0)).heap[i]? = _
    rw [Below.heap_setCell _ _ _ _ hi, Below.heap_setCell _ _ _ _ hi]
  refine ⟨cellOf hC', cellOf hC', ?_, ?_, ?_, ?_, ?_⟩
  · rw [World.cell?_of_block (oth k (by omega)), h23]
  · rw [oth m (by omega), M]
  · rw [oth b (by omega), B]
  · rw [oth g (by omega), G]
  · exact below_drewN ((bel.setCell (by simp; omega) _).setCell (by simp; omega) _) _

theorem take_law {W w : World} {c k m b g n l f : Nat} {best : Int} {cs : List Value} {xs ys : List Int} (h : Bef W w c k m b g n l best cs xs ys) (hl : l ≤ n) (hn : n ≤ 1024) (hf : f = l - 32) :
    Calls Yba.prog 6 #[.pointer (some ⟨c, 0, none⟩), .pointer (some ⟨k, 0, none⟩)] w fun e w' => e = .returned (.slice (some ⟨m, f, none⟩) (l - f) (n - f)) ∧ Aft W w' c k m b g f best cs xs ys := by
  obtain ⟨C, ⟨v, h23⟩, h25, z23, M, B, G, bel, o1, o2, o3, o4, o5⟩ := h
  have C1 : (w.setCell ⟨c, 0, none⟩ (.int .i32 1)).heap[c]? = some (.cells #[.int .i32 1, .int .u32 0, .slice (some ⟨m, 0, none⟩) n n, .int .i64 l, .int .i64 best, .slice (some ⟨b, 0, none⟩) xs.length xs.length, .bool false] 41 (0, 0)) := heap_set _ _ _ _ _ _ _ C
  have oth1 : ∀ i, i ≠ c → (w.setCell ⟨c, 0, none⟩ (.int .i32 1)).heap[i]? = w.heap[i]? := fun i hi => Below.heap_setCell _ _ _ _ hi
  have k23 : (w.setCell ⟨c, 0, none⟩ (.int .i32 1)).cell? ⟨k, 23, none⟩ = some (.int .i64 v) := by rw [World.cell?_of_block (oth1 k (by omega)), h23]
  have k25 : (w.setCell ⟨c, 0, none⟩ (.int .i32 1)).cell? ⟨k, 25, none⟩ = some (.slice (some ⟨g, 0, none⟩) ys.length ys.length) := by rw [World.cell?_of_block (oth1 k (by omega)), h25]
  have y23 : (w.setCell ⟨c, 0, none⟩ (.int .i32 1)).frozen? ⟨k, 23, none⟩ = false := by simpa using z23
  obtain ⟨w1, hw1⟩ : ∃ w1, w1 = w.setCell ⟨c, 0, none⟩ (.int .i32 1) := ⟨_, rfl⟩
  have bel1 : Below W.heap.size W w1 := by rw [hw1]; exact bel.setCell (by simp; omega) _
  have M1 : w1.heap[m]? = some (.cells cs.toArray 3 (0, 0)) := by rw [hw1, oth1 m (by omega), M]
  have B1 : w1.heap[b]? = some (.cells (flatR xs).toArray 30 (0, 0)) := by rw [hw1, oth1 b (by omega), B]
  have G1 : w1.heap[g]? = some (.cells (flatR ys).toArray 30 (0, 0)) := by rw [hw1, oth1 g (by omega), G]
  rw [← hw1] at C1 k23 k25 y23
  have oth2 : ∀ i, i ≠ k → (w1.setCell ⟨k, 23, none⟩ (.int .i64 best)).heap[i]? = w1.heap[i]? := fun i hi => Below.heap_setCell _ _ _ _ hi
  by_cases hb : 0 ≤ best
  · have hlook := lookAt_pos c k b g best v xs ys w1 hb (by omega) (by omega) (by omega) (cellOf C1) (cellOf C1) k23 k25 y23 B1 G1
    obtain ⟨w2, hw2⟩ : ∃ w2, w2 = ((w1.setCell ⟨k, 23, none⟩ (.int .i64 best)).drew).setRow g (flatR (xs.take (min xs.length ys.length) ++ ys.drop (min xs.length ys.length))).toArray := ⟨_, rfl⟩
    rw [← hw2] at hlook
    have oth3 : ∀ i, i ≠ g → i ≠ k → w2.heap[i]? = w1.heap[i]? := by
      intro i hi hik
      rw [hw2, setRow_other _ g i _ hi]
      exact oth2 i hik
    have C2 : w2.heap[c]? = some (.cells #[.int .i32 1, .int .u32 0, .slice (some ⟨m, 0, none⟩) n n, .int .i64 l, .int .i64 best, .slice (some ⟨b, 0, none⟩) xs.length xs.length, .bool false] 41 (0, 0)) := by rw [oth3 c (by omega) (by omega), C1]
    have G2 : w2.heap[g]? = some (.cells (flatR (newYs best xs ys)).toArray 30 (0, 0)) := by
      rw [hw2]
      have e : newYs best xs ys = xs.take (min xs.length ys.length) ++ ys.drop (min xs.length ys.length) := by unfold newYs; rw [if_pos hb]
      rw [e]
      exact setRow_heap _ g (flatR ys).toArray _ 30 _ (by show (w1.setCell ⟨k, 23, none⟩ (.int .i64 best)).heap[g]? = _; rw [oth2 g (by omega), G1])
    have h23' : w2.cell? ⟨k, 23, none⟩ = some (.int .i64 best) := by
      rw [World.cell?_of_block (w := w1.setCell ⟨k, 23, none⟩ (.int .i64 best)) (by rw [hw2]; exact setRow_other _ g k _ (by omega))]
      exact World.cell?_setCell_same _ _ _ k23
    have bel2 : Below W.heap.size W w2 := by
      rw [hw2]
      exact below_setRow ((bel1.setCell (by simp; omega) _).drew) (by omega) _
    refine (take_gen c k m n l f w w2 hl hn hf (cellOf C) (frozenOf C) (by rw [← hw1]; exact hlook) (cellOf C2) (cellOf C2) (cellOf C2) (frozenOf C2) (frozenOf C2)).mono ?_
    rintro e w' ⟨rfl, q, rfl⟩
    exact ⟨rfl, aft_of q C2 h23' (by rw [oth3 m (by omega) (by omega), M1]) (by rw [oth3 b (by omega) (by omega), B1]) G2 bel2 o1 o2 o3 o4 o5⟩
  · have hlook := lookAt_neg c k best v w1 (by omega) (by omega) (cellOf C1) k23 y23
    obtain ⟨w2, hw2⟩ : ∃ w2, w2 = w1.setCell ⟨k, 23, none⟩ (.int .i64 best) := ⟨_, rfl⟩
    rw [← hw2] at hlook oth2
    have C2 : w2.heap[c]? = some (.cells #[.int .i32 1, .int .u32 0, .slice (some ⟨m, 0, none⟩) n n, .int .i64 l, .int .i64 best, .slice (some ⟨b, 0, none⟩) xs.length xs.length, .bool false] 41 (0, 0)) := by rw [oth2 c (by omega), C1]
    have G2 : w2.heap[g]? = some (.cells (flatR (newYs best xs ys)).toArray 30 (0, 0)) := by
      have e : newYs best xs ys = ys := by unfold newYs; rw [if_neg hb]
      rw [e, oth2 g (by omega), G1]
    have h23' : w2.cell? ⟨k, 23, none⟩ = some (.int .i64 best) := by rw [hw2]; exact World.cell?_setCell_same _ _ _ k23
    have bel2 : Below W.heap.size W w2 := by rw [hw2]; exact bel1.setCell (by simp; omega) _
    refine (take_gen c k m n l f w w2 hl hn hf (cellOf C) (frozenOf C) (by rw [← hw1]; exact hlook) (cellOf C2) (cellOf C2) (cellOf C2) (frozenOf C2) (frozenOf C2)).mono ?_
    rintro e w' ⟨rfl, q, rfl⟩
    exact ⟨rfl, aft_of q C2 h23' (by rw [oth2 m (by omega), M1]) (by rw [oth2 b (by omega), B1]) G2 bel2 o1 o2 o3 o4 o5⟩
end Go.Proofs.Ybulkapua
