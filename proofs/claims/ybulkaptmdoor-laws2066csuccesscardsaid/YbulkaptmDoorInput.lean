/-
  The input that came in.
-/
import Derived.Test.YbulkaptmDoorLaid
namespace Go.Proofs.YbulkaptmDoor
open Go.ChangeShapes Go.WideShapes Go.ChangeAt Go.RowKit
set_option linter.unusedVariables false
set_option maxRecDepth 100000

theorem ints_of {H : Type} {ec : TypeId × Value → H} {W : World} {n : Nat} {t e : TypeId} {k : IntKind} {c : Value} {y : DataW H × List MemPlace} (ht : Ybad.prog.underlying t = some (.slice e)) (he : Ybad.prog.underlying e = some (.int k)) (hc : Ybad.prog.cellsOf e = 1)
    (h : DataW.trod ec Ybad.prog W 0 (fun _ => true) true n t [c] = some y) : ∃ a l cap zs, c = .slice a l cap ∧ IsRow k W a l cap zs := by
  rcases open_ints ht he hc h with ⟨hcs, _⟩ | ⟨x, l, c, zs, hcs, _, hlc, hm, hz, _, hcell, hwz⟩
  · simp at hcs
    exact ⟨none, 0, 0, [], hcs, .inl ⟨rfl, rfl, rfl, rfl⟩⟩
  · simp at hcs
    exact ⟨some x, l, c, zs, hcs, .inr ⟨x, rfl, hlc, hm, by simpa using hz, hcell, hwz⟩⟩

set_option maxHeartbeats 1600000 in
/-- The input, opened. -/
theorem open_input {H : Type} {ec : TypeId × Value → H} {W : World} {n : Nat} {cs : List Value} {x : DataW H × List MemPlace} (h : DataW.trod ec Ybad.prog W 0 (fun _ => true) true n 28 cs = some x) :
    ∃ (fl cmd app hop ete : Int) (ws : Bool) (sa : Option Addr) (sl sc : Nat) (host realm prod : ByteArray) (st i0 i1 i2 i3 port : Int) (ia : Option Addr) (il ic : Nat) (va : Option Addr) (vl vc : Nat) (ids vends sid : List Int),
      cs = [.int .u8 fl, .int .u32 cmd, .int .u32 app, .int .u32 hop, .int .u32 ete, .bool ws, .slice sa sl sc, .string host, .string realm, .string prod, .int .u32 st, .int .u8 i0, .int .u8 i1, .int .u8 i2, .int .u8 i3, .int .u16 port, .slice ia il ic, .slice va vl vc] ∧ IsRow .u32 W ia il ic ids ∧ IsRow .u32 W va vl vc vends ∧ IsRow .u8 W sa sl sc sid ∧ (0 ≤ st ∧ st < 4294967296) ∧ ((0 ≤ i0 ∧ i0 ≤ 255) ∧ (0 ≤ i1 ∧ i1 ≤ 255) ∧ (0 ≤ i2 ∧ i2 ≤ 255) ∧ (0 ≤ i3 ∧ i3 ≤ 255)) := by
  obtain ⟨xs, m, _, _, hl, hlen, hf⟩ := DataW.trod_struct Ybad.underlying28 h
  rw [cells28] at hl
  match cs, xs, hl, hlen with
  | [c0, c1, c2, c3, c4, c5, c6, c7, c8, c9, c10, c11, c12, c13, c14, c15, c16, c17], [y0, y1, y2, y3, y4, y5, y6, y7, y8, y9, y10, y11, y12, y13, y14], _, _ =>
    have t0 := hf 0 _ rfl
    have t1 := hf 1 _ rfl
    have t2 := hf 2 _ rfl
    have t3 := hf 3 _ rfl
    have t4 := hf 4 _ rfl
    have t5 := hf 5 _ rfl
    have t6 := hf 6 _ rfl
    have t7 := hf 7 _ rfl
    have t8 := hf 8 _ rfl
    have t9 := hf 9 _ rfl
    have t10 := hf 10 _ rfl
    have t11 := hf 11 _ rfl
    have t12 := hf 12 _ rfl
    have t13 := hf 13 _ rfl
    have t14 := hf 14 _ rfl
    clear hf h
    simp [cells5, cells22, cells4, cells23, cells9, cells24, cells25, cells26] at t0 t1 t2 t3 t4 t5 t6 t7 t8 t9 t10 t11 t12 t13 t14
    obtain ⟨fl, e0, _, _⟩ := DataW.trod_int Ybad.underlying5 t0
    obtain ⟨cmd, e1, _, w1⟩ := DataW.trod_int Ybad.underlying22 t1
    obtain ⟨app, e2, _, w2⟩ := DataW.trod_int Ybad.underlying22 t2
    obtain ⟨hop, e3, _, w3⟩ := DataW.trod_int Ybad.underlying22 t3
    obtain ⟨ete, e4, _, w4⟩ := DataW.trod_int Ybad.underlying22 t4
    obtain ⟨st, e10, _, w10⟩ := DataW.trod_int Ybad.underlying22 t10
    obtain ⟨ws, e5, _⟩ := DataW.trod_bool Ybad.underlying4 t5
    obtain ⟨sa, sl, sc, sid, e6, r6⟩ := ints_of Ybad.underlying23 Ybad.underlying5 cells5 t6
    obtain ⟨host, e7, _, _⟩ := DataW.trod_string Ybad.underlying9 t7
    obtain ⟨realm, e8, _, _⟩ := DataW.trod_string Ybad.underlying9 t8
    obtain ⟨prod, e9, _, _⟩ := DataW.trod_string Ybad.underlying9 t9
    obtain ⟨port, e12, _, _⟩ := DataW.trod_int Ybad.underlying25 t12
    obtain ⟨ia, il, ic, ids, e13, r13⟩ := ints_of Ybad.underlying26 Ybad.underlying22 cells22 t13
    obtain ⟨va, vl, vc, vends, e14, r14⟩ := ints_of Ybad.underlying26 Ybad.underlying22 cells22 t14
    obtain ⟨ys, k, _, _, _, hyl, hy⟩ := DataW.trod_array Ybad.underlying24 t11
    match ys, hyl with
    | [z0, z1, z2, z3], _ =>
      have u0 := hy 0 (by decide)
      have u1 := hy 1 (by decide)
      have u2 := hy 2 (by decide)
      have u3 := hy 3 (by decide)
      simp [cells5] at u0 u1 u2 u3
      obtain ⟨i0, g0, _, v0⟩ := DataW.trod_int Ybad.underlying5 u0
      obtain ⟨i1, g1, _, v1⟩ := DataW.trod_int Ybad.underlying5 u1
      obtain ⟨i2, g2, _, v2⟩ := DataW.trod_int Ybad.underlying5 u2
      obtain ⟨i3, g3, _, v3⟩ := DataW.trod_int Ybad.underlying5 u3
      simp at e0 e1 e2 e3 e4 e5 e7 e8 e9 e10 e12 g0 g1 g2 g3
      subst e0 e1 e2 e3 e4 e5 e6 e7 e8 e9 e10 e12 e13 e14 g0 g1 g2 g3
      have b10 := bounds_u32 w10
      exact ⟨fl, cmd, app, hop, ete, ws, sa, sl, sc, host, realm, prod, st, i0, i1, i2, i3, port, ia, il, ic, va, vl, vc, ids, vends, sid, rfl, r13, r14, r6, ⟨b10.1, by omega⟩, bounds_u8 v0, bounds_u8 v1, bounds_u8 v2, bounds_u8 v3⟩
end Go.Proofs.YbulkaptmDoor
