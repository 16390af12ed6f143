/-
  The two rows that the Success law builds: codes and numbers.
-/
import Derived.Test.YbulkaptmDoorSpec
import Derived.Test.YbulkaptmDoorBuild
import Derived.Maps.AppendAt
namespace Go.Proofs.YbulkaptmDoor
open Go.RowKit
set_option linter.unusedVariables false
set_option maxRecDepth 100000

theorem info22 : (Ybad.prog.info? 22).map (fun i => (i.zero, i.size, i.bytes)) = some (some (.int .u32 0), 1, 4) := by kernel_rfl
def cds (ss : List Sp) : List Value := ss.map fun s => .int .u32 s.1
def vls (ss : List Sp) : List Value := ss.map fun s => .int .u32 (s.2.getD 0)
/-- Two blocks that are not one. -/
def Dist (a b : Option Nat) : Prop := a = none ∨ b = none ∨ a ≠ b
theorem Dist.symm {a b : Option Nat} (h : Dist a b) : Dist b a := by
  rcases h with h | h | h
  · exact .inr (.inl h)
  · exact .inl h
  · exact .inr (.inr fun e => h e.symm)
/-- Codes and numbers behind as many AVPs as 'ss' has. -/
structure TwoRows (w : World) (B : Nat) (d8 d9 : Value) (ss : List Sp) : Prop where
  r8 : w.ownsRow B 22 1 d8 ss.length (cds ss)
  r9 : w.ownsRow B 22 1 d9 ss.length (vls ss)
  di : Dist d8.ownBlock d9.ownBlock
theorem TwoRows.grow {w w' : World} {B : Nat} {d8 d9 : Value} {ss : List Sp} (h : TwoRows w B d8 d9 ss) (hg : w.grownBy w' none) : TwoRows w' B d8 d9 ss := ⟨keptN h.r8 hg, keptN h.r9 hg, h.di⟩
theorem own_two {w w' : World} {B m : Nat} {v v' u : Value} {ys : List Value} (hu : w.ownsRow B 22 1 u m ys) (hg : w.grownBy w' v.ownBlock) (hd : Dist v.ownBlock u.ownBlock) (hat : v'.ownBlock = v.ownBlock ∨ v'.ownBlock = some w.heap.size) :
    w'.ownsRow B 22 1 u m ys ∧ Dist v'.ownBlock u.ownBlock := by
  refine ⟨hu.kept hg ?_, ?_⟩
  · rcases hd with h | h | h
    · rw [h]
      cases hb : u.ownBlock with
      | none => exact .inl rfl
      | some k => exact .inr (by simp)
    · exact .inl h
    · exact .inr fun e => h e.symm
  · rcases hat with h | h
    · rw [h]; exact hd
    · cases hb : u.ownBlock with
      | none => exact .inr (.inl rfl)
      | some k =>
        refine .inr (.inr ?_)
        rw [h]
        intro e
        have := (hu.lt k hb).2
        cases e
        omega
theorem row1_form {w : World} {B e n : Nat} {v : Value} {xs : List Value} (h : w.ownsRow B e 1 v n xs) : ∃ ao cap, v = .slice ao n cap ∧ ∀ j u, xs[j]? = some u → ∃ g, ao = some ⟨g, 0, none⟩ ∧ w.cell? ((⟨g, 0, none⟩ : Addr).add j) = some u := by
  have hl := h.1
  rcases h.2 with ⟨rfl, rfl⟩ | ⟨g, cap, cur, rfl, _⟩
  · refine ⟨none, 0, rfl, fun j u hj => ?_⟩
    have : xs = [] := List.eq_nil_of_length_eq_zero (by simpa using hl)
    subst this
    simp at hj
  · exact ⟨_, cap, rfl, fun j u hj => ⟨g, rfl, h.cells rfl j u hj⟩⟩
theorem seen_iff {vends : List Int} {v : Int} (hv : v ≠ 0) : ∀ k, v ∈ seen vends k ↔ ∃ j, j < k ∧ vends.getD j 0 = v
  | 0 => by simp [seen]
  | k + 1 => by
    have ih := seen_iff (vends := vends) hv k
    constructor
    · intro h
      by_cases hc : vends.getD k 0 ≠ 0 ∧ vends.getD k 0 ∉ seen vends k
      · rw [seen_new hc.1 hc.2] at h
        rcases List.mem_append.1 h with h | h
        · obtain ⟨j, h1, h2⟩ := ih.1 h; exact ⟨j, by omega, h2⟩
        · exact ⟨k, by omega, (by simpa using h : v = vends.getD k 0).symm⟩
      · rw [seen, if_neg hc] at h
        obtain ⟨j, h1, h2⟩ := ih.1 h
        exact ⟨j, by omega, h2⟩
    · rintro ⟨j, h1, h2⟩
      by_cases hc : vends.getD k 0 ≠ 0 ∧ vends.getD k 0 ∉ seen vends k
      · rw [seen_new hc.1 hc.2, List.mem_append]
        by_cases hj : j < k
        · exact .inl (ih.2 ⟨j, hj, h2⟩)
        · obtain rfl : j = k := by omega
          exact .inr (by rw [h2]; simp)
      · rw [seen, if_neg hc]
        by_cases hj : j < k
        · exact ih.2 ⟨j, hj, h2⟩
        · obtain rfl : j = k := by omega
          refine Classical.byContradiction fun hn => hc ⟨by rw [h2]; exact hv, by rw [h2]; exact hn⟩
theorem seen_wf {vends : List Int} (hv : ∀ j, (Lit.int .u32 (vends.getD j 0)).wf = true) : ∀ k v, v ∈ seen vends k → (Lit.int .u32 v).wf = true
  | 0, v, h => by simp [seen] at h
  | k + 1, v, h => by
    by_cases hc : vends.getD k 0 ≠ 0 ∧ vends.getD k 0 ∉ seen vends k
    · rw [seen_new hc.1 hc.2] at h
      rcases List.mem_append.1 h with h | h
      · exact seen_wf hv k v h
      · rw [show v = vends.getD k 0 by simpa using h]; exact hv k
    · rw [seen, if_neg hc] at h; exact seen_wf hv k v h
/-- What each of the list is. -/
theorem sp_kind {ids vends : List Int} (hi : ∀ j, (Lit.int .u32 (ids.getD j 0)).wf = true) (hv : ∀ j, (Lit.int .u32 (vends.getD j 0)).wf = true) (n : Nat) : ∀ s ∈ sp1 vends n ++ sp2 ids vends n, s.1 = 260 ∨ ∃ v, s.2 = some v ∧ s.1 ≠ 260 ∧ (Lit.int .u32 v).wf = true := by
  intro s hs
  rcases List.mem_append.1 hs with h | h
  · obtain ⟨v, h1, rfl⟩ := List.mem_map.1 h
    exact .inr ⟨v, rfl, by show (265 : Int) ≠ 260; decide, seen_wf hv n v h1⟩
  · have key : ∀ k, ∀ s ∈ sp2 ids vends k, s.1 = 260 ∨ ∃ v, s.2 = some v ∧ s.1 ≠ 260 ∧ (Lit.int .u32 v).wf = true := by
      intro k
      induction k with
      | zero => intro s hs; simp [sp2] at hs
      | succ k ih =>
        intro s hs
        rcases List.mem_append.1 hs with h | h
        · exact ih s h
        · have e : s = if vends.getD k 0 = 0 then (258, some (ids.getD k 0)) else (260, none) := by simpa using h
          by_cases h0 : vends.getD k 0 = 0
          · rw [if_pos h0] at e; rw [e]; exact .inr ⟨_, rfl, by show (258 : Int) ≠ 260; decide, hi k⟩
          · rw [if_neg h0] at e; rw [e]; exact .inl rfl
    exact key n s h
theorem cds_append (a b : List Sp) : cds (a ++ b) = cds a ++ cds b := by simp [cds]
theorem vls_append (a b : List Sp) : vls (a ++ b) = vls a ++ vls b := by simp [vls]
end Go.Proofs.YbulkaptmDoor
