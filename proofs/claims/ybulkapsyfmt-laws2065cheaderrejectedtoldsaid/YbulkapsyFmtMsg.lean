/-
  zzs2065cmsg: the message that both laws of this seat build, as a row of the call's own.
-/
import Derived.Test.YbulkapsyFmtProg
import Derived.WalkKit
import Derived.KernelRfl
namespace Go.Proofs.YbulkapsyFmt
open Go.RowKit

/-- A slice of integers that came in: nil; or a row of 'cap' cells, the numbers 'zs'. -/
def IsRow (k : IntKind) (w : World) (a : Option Addr) (len cap : Nat) (zs : List Int) : Prop :=
  (a = none ∧ len = 0 ∧ cap = 0 ∧ zs = []) ∨
  ∃ x, a = some x ∧ len ≤ cap ∧ cap ≤ maxLen ∧ zs.length = cap ∧ (∀ i, i < zs.length → w.cell? (x.add i) = some (.int k (zs.getD i 0))) ∧ ∀ n ∈ zs, (Lit.int k n).wf = true

theorem info5 : (Ybaf.prog.info? 5).map (fun i => (i.zero, i.size, i.bytes)) = some (some (.int .u8 0), 1, 1) := by kernel_rfl

theorem IsRow.none {k : IntKind} {w : World} {a : Option Addr} {len cap : Nat} {zs : List Int} (h : IsRow k w a len cap zs) : a = .none → len = 0 ∧ cap = 0 := by
  intro ha
  rcases h with ⟨_, h1, h2, _⟩ | ⟨x, hx, _⟩
  · exact ⟨h1, h2⟩
  · rw [hx] at ha; cases ha

theorem IsRow.take_length {k : IntKind} {w : World} {a : Option Addr} {len cap : Nat} {zs : List Int} (h : IsRow k w a len cap zs) : (zs.take len).length = len := by
  rcases h with ⟨_, h1, h2, h3⟩ | ⟨x, _, hl, _, hz, _, _⟩
  · subst h1; subst h3; rfl
  · rw [List.length_take]; omega

theorem IsRow.cells {k : IntKind} {w w' : World} {a : Option Addr} {len cap : Nat} {zs : List Int} (h : IsRow k w a len cap zs) (hb : Below w.heap.size w w') :
    ∀ ad, a = some ad → ∀ j u, ((zs.take len).map (Value.int k))[j]? = some u → w'.cell? (ad.add j) = some u := by
  intro ad ha j u hu
  rcases h with ⟨h0, _, _, _⟩ | ⟨x, hx, hl, _, hz, hc, _⟩
  · rw [h0] at ha; cases ha
  · rw [hx] at ha
    obtain rfl := Option.some.inj ha
    have hj : j < (zs.take len).length := by
      rcases Nat.lt_or_ge j (zs.take len).length with h | h
      · exact h
      · rw [List.getElem?_eq_none (by simpa using h)] at hu; cases hu
    have hj' : j < len ∧ j < zs.length := by rw [List.length_take] at hj; omega
    have hcj := hc j hj'.2
    have hlt := World.block_lt_of_cell? _ _ hcj
    rw [hb.cell hlt, hcj]
    rw [← hu]
    simp [hj'.1, List.getElem?_eq_getElem hj'.2, List.getD]

/-- The message: magic, version, kind, then raw. -/
def msgOf (v k : Int) (zs : List Int) : List Int := [66, 76, 83, 84] ++ [v, k] ++ zs

set_option maxHeartbeats 800000 in
theorem msg_any (v k : Int) (ra : Option Addr) (rlen rcap : Nat) (zs : List Int) (w : World) (hr : IsRow .u8 w ra rlen rcap zs) (hl : rlen ≤ 1024) :
    Calls Ybaf.prog 5 #[.int .u8 v, .int .u8 k, .slice ra rlen rcap] w fun e w' => e = .returned (.slice (some ⟨w.heap.size, 0, none⟩) (6 + rlen) (rlen + 6)) ∧
      w'.ownsRow w.heap.size 5 1 (.slice (some ⟨w.heap.size, 0, none⟩) (6 + rlen) (rlen + 6)) (6 + rlen) ((msgOf v k (zs.take rlen)).map (Value.int .u8)) ∧ Below w.heap.size w w' := by
  obtain ⟨i0, hi, hz0, hz1, hz2⟩ := info_parts info5
  have HR : Hid (IsRow .u8 w ra rlen rcap zs) := hr
  clear hr
  go_enter Ybaf.func5, Ybaf.ntmps5
  go_wp2_with (at_make; refine wpList_make_own _ rfl _ _ 22 rfl w.heap.size 5 i0 (.int .u8 0) 1 Ybaf.underlying22 hi hz0 hz1 _ _ _ (rlen + 6) rfl rfl ?c0 ?c1 ?c2 ?c3 ?_)
  case c0 => omega
  case c1 => rw [hz2]; omega
  case c2 => unfold maxLen; omega
  case c3 => exact Nat.le_refl _
  intro w1 hown1 hg1
  have hb1 : Below w.heap.size w w1 := (Below.refl _ w).grown hg1 (Nat.le_refl _) (by intro k hk; cases hk)
  have hs1 : w.heap.size < w1.heap.size := (hown1.lt _ rfl).2
  clear hg1
  have Hb1 : Hid (Below w.heap.size w w1) := hb1
  clear hb1
  go_wp2_with (at_builtin; refine wpList_append_fits _ rfl _ _ 22 rfl w.heap.size 5 i0 1 Ybaf.underlying22 hi hz1 w.heap.size 0 (rlen + 6) [] rfl (hown1.alloc _) ⟨w1.heap.size, 0, none⟩ 4 4 ([66, 76, 83, 84].map (Value.int .u8)) rfl rfl ?d1 ?d2 ?d3 ?_)
  case d1 =>
    intro j u hj
    match j, hj with
    | 0, hj => simp at hj; subst hj; simp [Addr.add]
    | 1, hj => simp at hj; subst hj; simp [Addr.add]
    | 2, hj => simp at hj; subst hj; simp [Addr.add]
    | 3, hj => simp at hj; subst hj; simp [Addr.add]
  case d2 => exact ints_oneCell _ _
  case d3 => omega
  intro w2 hown2 hg2
  have Hb2 : Hid (Below w.heap.size w w2) := (Hb1.out.alloc (by omega) _).grown hg2 (by simp; omega) (by intro k hk; cases hk; exact Nat.le_refl _)
  have hs2 : w.heap.size < w2.heap.size := (hown2.lt _ rfl).2
  clear hg2 hown1 Hb1 hs1
  go_wp2_with (at_builtin; refine wpList_append_fits _ rfl _ _ 22 rfl w.heap.size 5 i0 1 Ybaf.underlying22 hi hz1 w.heap.size 4 (rlen + 6) _ rfl (hown2.alloc _) ⟨w2.heap.size, 0, none⟩ 2 2 ([v, k].map (Value.int .u8)) rfl rfl ?e1 ?e2 ?e3 ?_)
  case e1 =>
    intro j u hj
    match j, hj with
    | 0, hj => simp at hj; subst hj; simp [Addr.add]
    | 1, hj => simp at hj; subst hj; simp [Addr.add]
  case e2 => exact ints_oneCell _ _
  case e3 => omega
  intro w3 hown3 hg3
  have Hb3 : Hid (Below w.heap.size w w3) := (Hb2.out.alloc (by omega) _).grown hg3 (by simp; omega) (by intro k hk; cases hk; exact Nat.le_refl _)
  have hs3 : w.heap.size < w3.heap.size := (hown3.lt _ rfl).2
  clear hg3 hown2 Hb2 hs2
  go_wp2_with (at_builtin; refine wpList_append_fits_any _ rfl _ _ 22 rfl w.heap.size 5 i0 1 Ybaf.underlying22 hi hz1 w.heap.size 6 (rlen + 6) _ rfl hown3 ra rlen rcap ((zs.take rlen).map (Value.int .u8)) rfl ?f0 ?f1 ?f2 ?f3 ?f4 ?_)
  case f0 => simpa using HR.out.take_length
  case f1 => exact HR.out.none
  case f2 => exact HR.out.cells Hb3.out
  case f3 => exact ints_oneCell _ _
  case f4 => omega
  intro w4 hown4 hg4
  have Hb4 : Hid (Below w.heap.size w w4) := Hb3.out.grown hg4 (by omega) (by intro k hk; cases hk; exact Nat.le_refl _)
  have ho : w4.ownsRow w.heap.size 5 1 (.slice (some ⟨w.heap.size, 0, none⟩) (6 + rlen) (rlen + 6)) (6 + rlen) ((msgOf v k (zs.take rlen)).map (Value.int .u8)) := by
    simpa [msgOf] using hown4
  have Ho : Hid _ := ho
  clear ho
  clear hg4 hown4 hown3 Hb3
  go_wp2
  go_ret
  exact ⟨rfl, Ho.out, Hb4.out⟩

end Go.Proofs.YbulkapsyFmt
