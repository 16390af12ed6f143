/-
  (f8) prefix.
-/
import Derived.Test.YbulkaptmDoorCea
namespace Go.Proofs.YbulkaptmDoor
open Go.RowKit
set_option linter.unusedVariables false
set_option linter.unusedSimpArgs false
set_option maxRecDepth 100000

set_option maxHeartbeats 6400000 in
theorem prefix_r3 {Q : Exit → Act → World → Prop} {ds : List Deferred} {t0 t3 t4 t5 t6 t7 t8 t9 t10 t11 t12 t13 t14 t15 t16 t17 t18 t19 t20 t21 t22 t23 t24 t25 t26 t27 t28 t29 t30 t31 t32 t33 t34 t35 t36 t37 t38 t39 t40 t41 t42 t43 t44 t45 t46 t47 t48 t49 t50 t51 : Value} {w : World} {g n cap b0 : Nat} {da sa : Option Addr} {dl dc sl sc : Nat} {s : ByteArray}
    (hn : 3 ≤ n) (kg0 : w.cell? ⟨g, 0, none⟩ = some (.int .u32 263)) (kg3 : w.cell? ⟨g, 3, none⟩ = some (.slice da dl dc)) (kb06 : w.cell? ⟨b0, 6, none⟩ = some (.slice sa sl sc)) (hC : (∀ w', w.grownBy w' none → (convert 23 9 (.slice da dl dc)).run Ybad.prog w' = .ok (.string s) w') ∧ (∀ w', w.grownBy w' none → (convert 23 9 (.slice sa sl sc)).run Ybad.prog w' = .ok (.string s) w'))
    (hQ : ∀ (s8 s9 s10 s11 s12 s13 s14 s15 s16 s17 s18 s19 s20 s21 s22 s23 s24 s25 s26 : Value) (w' : World), w.grownBy w' none → Q .normal { tmps := #[t0, (.slice (some ⟨g, 0, none⟩) n cap), (.pointer (some ⟨b0, 0, none⟩)), t3, t4, t5, t6, t7, s8, s9, s10, s11, s12, s13, s14, s15, s16, s17, s18, s19, s20, s21, s22, s23, s24, s25, s26, (.bool false), t28, t29, t30, t31, t32, t33, t34, t35, t36, t37, t38, t39, t40, t41, t42, t43, t44, t45, t46, t47, t48, t49, t50, t51], defers := ds } w') :
    (Code.region 3 #[{ dst := some 8, op := Op.move (Operand.tmp 1), type := 35, pos := "zz_law_s2066c.go:68", after := #[], guard := none }, { dst := some 9, op := Op.call { callee := Callee.builtin Builtin.len, args := #[Operand.tmp 8], argTypes := #[35] }, type := 3, pos := "zz_law_s2066c.go:68", after := #[{ on := 0, ground := Ground.data }], guard := none }, { dst := some 10, op := Op.binOp BinOp.lss 3 (Operand.tmp 9) (Operand.const (Value.int IntKind.i64 1)) 3, type := 4, pos := "zz_law_s2066c.go:68", after := #[{ on := 1, ground := Ground.data }], guard := none }, { dst := some 11, op := Op.move (Operand.tmp 10), type := 4, pos := "zz_law_s2066c.go:68", after := #[{ on := 2, ground := Ground.data }], guard := none }, { dst := some 12, op := Op.move (Operand.tmp 1), type := 35, pos := "zz_law_s2066c.go:68", after := #[{ on := 3, ground := Ground.guard }], guard := some (3, false) }, { dst := some 13, op := Op.indexAddr 35 (Operand.tmp 12) (Operand.const (Value.int IntKind.i64 0)), type := 0, pos := "zz_law_s2066c.go:68", after := #[{ on := 4, ground := Ground.data }, { on := 3, ground := Ground.guard }], guard := some (3, false) }, { dst := some 14, op := Op.fieldAddr 41 (Operand.tmp 13) 0, type := 0, pos := "zz_law_s2066c.go:68", after := #[{ on := 5, ground := Ground.data }, { on := 3, ground := Ground.guard }], guard := some (3, false) }, { dst := some 15, op := Op.load 22 (Operand.tmp 14), type := 22, pos := "zz_law_s2066c.go:68", after := #[{ on := 6, ground := Ground.data }, { on := 3, ground := Ground.guard }], guard := some (3, false) }, { dst := some 16, op := Op.binOp BinOp.neq 22 (Operand.tmp 15) (Operand.const (Value.int IntKind.u32 263)) 22, type := 4, pos := "zz_law_s2066c.go:68", after := #[{ on := 7, ground := Ground.data }, { on := 3, ground := Ground.guard }], guard := some (3, false) }, { dst := some 17, op := Op.pick (Operand.tmp 11) (Operand.const (Value.bool true)) (Operand.tmp 16), type := 4, pos := "zz_law_s2066c.go:68", after := #[{ on := 3, ground := Ground.data }, { on := 8, ground := Ground.data }], guard := none }, { dst := some 18, op := Op.move (Operand.tmp 17), type := 4, pos := "zz_law_s2066c.go:68", after := #[{ on := 9, ground := Ground.data }, { on := 3, ground := Ground.chain }], guard := none }, { dst := some 19, op := Op.move (Operand.tmp 1), type := 35, pos := "zz_law_s2066c.go:68", after := #[{ on := 10, ground := Ground.guard }], guard := some (10, false) }, { dst := some 20, op := Op.indexAddr 35 (Operand.tmp 19) (Operand.const (Value.int IntKind.i64 0)), type := 0, pos := "zz_law_s2066c.go:68", after := #[{ on := 11, ground := Ground.data }, { on := 10, ground := Ground.guard }], guard := some (10, false) }, { dst := some 21, op := Op.fieldAddr 41 (Operand.tmp 20) 3, type := 0, pos := "zz_law_s2066c.go:68", after := #[{ on := 12, ground := Ground.data }, { on := 10, ground := Ground.guard }], guard := some (10, false) }, { dst := some 22, op := Op.load 23 (Operand.tmp 21), type := 23, pos := "zz_law_s2066c.go:68", after := #[{ on := 13, ground := Ground.data }, { on := 10, ground := Ground.guard }], guard := some (10, false) }, { dst := some 23, op := Op.fieldAddr 28 (Operand.tmp 2) 6, type := 0, pos := "zz_law_s2066c.go:68", after := #[{ on := 10, ground := Ground.guard }], guard := some (10, false) }, { dst := some 24, op := Op.load 23 (Operand.tmp 23), type := 23, pos := "zz_law_s2066c.go:68", after := #[{ on := 15, ground := Ground.data }, { on := 10, ground := Ground.guard }], guard := some (10, false) }, { dst := some 25, op := Op.call { callee := Callee.value (Operand.func 22), args := #[Operand.tmp 22, Operand.tmp 24], argTypes := #[23, 23] }, type := 4, pos := "zz_law_s2066c.go:68", after := #[{ on := 14, ground := Ground.data }, { on := 16, ground := Ground.data }, { on := 10, ground := Ground.chain }, { on := 10, ground := Ground.guard }], guard := some (10, false) }, { dst := some 26, op := Op.unOp UnOp.not 4 (Operand.tmp 25), type := 4, pos := "zz_law_s2066c.go:68", after := #[{ on := 17, ground := Ground.data }, { on := 10, ground := Ground.guard }], guard := some (10, false) }, { dst := some 27, op := Op.pick (Operand.tmp 18) (Operand.const (Value.bool true)) (Operand.tmp 26), type := 4, pos := "zz_law_s2066c.go:68", after := #[{ on := 10, ground := Ground.data }, { on := 18, ground := Ground.data }], guard := none }] true).wp Ybad.prog Q { tmps := #[t0, (.slice (some ⟨g, 0, none⟩) n cap), (.pointer (some ⟨b0, 0, none⟩)), t3, t4, t5, t6, t7, t8, t9, t10, t11, t12, t13, t14, t15, t16, t17, t18, t19, t20, t21, t22, t23, t24, t25, t26, t27, t28, t29, t30, t31, t32, t33, t34, t35, t36, t37, t38, t39, t40, t41, t42, t43, t44, t45, t46, t47, t48, t49, t50, t51], defers := ds } w := by
  have HS : Hid (∀ w', w.grownBy w' none → (fun w' => w'.cell? ⟨g, 0, none⟩ = some (.int .u32 263) ∧ w'.cell? ⟨g, 3, none⟩ = some (.slice da dl dc) ∧ w'.cell? ⟨b0, 6, none⟩ = some (.slice sa sl sc)) w') := by
    show ∀ w', w.grownBy w' none → (fun w' => w'.cell? ⟨g, 0, none⟩ = some (.int .u32 263) ∧ w'.cell? ⟨g, 3, none⟩ = some (.slice da dl dc) ∧ w'.cell? ⟨b0, 6, none⟩ = some (.slice sa sl sc)) w'
    intro w' hg
    exact ⟨gcell hg kg0, gcell hg kg3, gcell hg kb06⟩
  have HC : Hid ((∀ w', w.grownBy w' none → (convert 23 9 (.slice da dl dc)).run Ybad.prog w' = .ok (.string s) w') ∧ (∀ w', w.grownBy w' none → (convert 23 9 (.slice sa sl sc)).run Ybad.prog w' = .ok (.string s) w')) := hC
  have h1 : ¬ (n : Int) < 1 := by omega
  have h0 : (0 : Int) < n := by omega
  have h0n : n ≠ 0 := by omega
  clear kg0 kg3 kb06 hC hn
  have HQ : Hid (∀ (s8 s9 s10 s11 s12 s13 s14 s15 s16 s17 s18 s19 s20 s21 s22 s23 s24 s25 s26 : Value) (w' : World), w.grownBy w' none → Q .normal { tmps := #[t0, (.slice (some ⟨g, 0, none⟩) n cap), (.pointer (some ⟨b0, 0, none⟩)), t3, t4, t5, t6, t7, s8, s9, s10, s11, s12, s13, s14, s15, s16, s17, s18, s19, s20, s21, s22, s23, s24, s25, s26, (.bool false), t28, t29, t30, t31, t32, t33, t34, t35, t36, t37, t38, t39, t40, t41, t42, t43, t44, t45, t46, t47, t48, t49, t50, t51], defers := ds } w') := hQ
  clear hQ
  refine wp_region_noPanic ?_
  refine wp_region_held_drew (S := (fun w' => w'.cell? ⟨g, 0, none⟩ = some (.int .u32 263) ∧ w'.cell? ⟨g, 3, none⟩ = some (.slice da dl dc) ∧ w'.cell? ⟨b0, 6, none⟩ = some (.slice sa sl sc))) (by kernel_rfl) ?hS (fun hHeld => ?_)
  case hS => exact HS.out _ (gdrew _ _)
  refine wpAnyH_take (i := 0) (oi := ({ dst := some 8, op := Op.move (Operand.tmp 1), type := 35, pos := "zz_law_s2066c.go:68", after := #[], guard := none } : Oper)) (v := ?v0) rfl (by kernel_rfl) (by kernel_rfl) (by kernel_rfl) (fun _ _ _ h => h) (Or.inl ⟨by rfl, ?hy0⟩) (by assumption) ?rest0
  case hy0 => (intro w hSw; (try dsimp only at hSw); go_simp; try (first | with_reducible rfl | decide))
  (try simp only [Act.put, List.setIfInBounds_toArray, List.set_cons_zero, List.set_cons_succ])
  refine wpAnyH_take (i := 1) (oi := ({ dst := some 9, op := Op.call { callee := Callee.builtin Builtin.len, args := #[Operand.tmp 8], argTypes := #[35] }, type := 3, pos := "zz_law_s2066c.go:68", after := #[{ on := 0, ground := Ground.data }], guard := none } : Oper)) (v := ?v1) rfl (by kernel_rfl) (by kernel_rfl) (by kernel_rfl) (fun _ _ _ h => h) (Or.inl ⟨by rfl, ?hy1⟩) (by assumption) ?rest1
  case hy1 => (intro w hSw; (try dsimp only at hSw); go_simp; try (first | with_reducible rfl | decide))
  (try simp only [Act.put, List.setIfInBounds_toArray, List.set_cons_zero, List.set_cons_succ])
  refine wpAnyH_take (i := 2) (oi := ({ dst := some 10, op := Op.binOp BinOp.lss 3 (Operand.tmp 9) (Operand.const (Value.int IntKind.i64 1)) 3, type := 4, pos := "zz_law_s2066c.go:68", after := #[{ on := 1, ground := Ground.data }], guard := none } : Oper)) (v := .bool false) rfl (by kernel_rfl) (by kernel_rfl) (by kernel_rfl) (fun _ _ _ h => h) (Or.inl ⟨by rfl, ?hy2⟩) (by assumption) ?rest2
  case hy2 => (intro w hSw; (try dsimp only at hSw); go_simp; try (first | with_reducible rfl | decide))
  (try simp only [Act.put, List.setIfInBounds_toArray, List.set_cons_zero, List.set_cons_succ])
  refine wpAnyH_take (i := 3) (oi := ({ dst := some 11, op := Op.move (Operand.tmp 10), type := 4, pos := "zz_law_s2066c.go:68", after := #[{ on := 2, ground := Ground.data }], guard := none } : Oper)) (v := .bool false) rfl (by kernel_rfl) (by kernel_rfl) (by kernel_rfl) (fun _ _ _ h => h) (Or.inl ⟨by rfl, ?hy3⟩) (by assumption) ?rest3
  case hy3 => (intro w hSw; (try dsimp only at hSw); go_simp; try (first | with_reducible rfl | decide))
  (try simp only [Act.put, List.setIfInBounds_toArray, List.set_cons_zero, List.set_cons_succ])
  refine wpAnyH_take (i := 4) (oi := ({ dst := some 12, op := Op.move (Operand.tmp 1), type := 35, pos := "zz_law_s2066c.go:68", after := #[{ on := 3, ground := Ground.guard }], guard := some (3, false) } : Oper)) (v := ?v4) rfl (by kernel_rfl) (by kernel_rfl) (by kernel_rfl) (fun _ _ _ h => h) (Or.inl ⟨by rfl, ?hy4⟩) (by assumption) ?rest4
  case hy4 => (intro w hSw; (try dsimp only at hSw); go_simp; try (first | with_reducible rfl | decide))
  (try simp only [Act.put, List.setIfInBounds_toArray, List.set_cons_zero, List.set_cons_succ])
  refine wpAnyH_take (i := 5) (oi := ({ dst := some 13, op := Op.indexAddr 35 (Operand.tmp 12) (Operand.const (Value.int IntKind.i64 0)), type := 0, pos := "zz_law_s2066c.go:68", after := #[{ on := 4, ground := Ground.data }, { on := 3, ground := Ground.guard }], guard := some (3, false) } : Oper)) (v := .pointer (some ⟨g, 0, none⟩)) rfl (by kernel_rfl) (by kernel_rfl) (by kernel_rfl) (fun _ _ _ h => h) (Or.inl ⟨by rfl, ?hy5⟩) (by assumption) ?rest5
  case hy5 => (intro w hSw; (try dsimp only at hSw); go_simp; try (first | with_reducible rfl | decide))
  (try simp only [Act.put, List.setIfInBounds_toArray, List.set_cons_zero, List.set_cons_succ])
  refine wpAnyH_take (i := 6) (oi := ({ dst := some 14, op := Op.fieldAddr 41 (Operand.tmp 13) 0, type := 0, pos := "zz_law_s2066c.go:68", after := #[{ on := 5, ground := Ground.data }, { on := 3, ground := Ground.guard }], guard := some (3, false) } : Oper)) (v := ?v6) rfl (by kernel_rfl) (by kernel_rfl) (by kernel_rfl) (fun _ _ _ h => h) (Or.inl ⟨by rfl, ?hy6⟩) (by assumption) ?rest6
  case hy6 => (intro w hSw; (try dsimp only at hSw); go_simp; try (first | with_reducible rfl | decide))
  (try simp only [Act.put, List.setIfInBounds_toArray, List.set_cons_zero, List.set_cons_succ])
  refine wpAnyH_take (i := 7) (oi := ({ dst := some 15, op := Op.load 22 (Operand.tmp 14), type := 22, pos := "zz_law_s2066c.go:68", after := #[{ on := 6, ground := Ground.data }, { on := 3, ground := Ground.guard }], guard := some (3, false) } : Oper)) (v := ?v7) rfl (by kernel_rfl) (by kernel_rfl) (by kernel_rfl) (fun _ _ _ h => h) (Or.inl ⟨by rfl, ?hy7⟩) (by assumption) ?rest7
  case hy7 => (intro w hSw; (try dsimp only at hSw); go_simp; try (first | with_reducible rfl | decide))
  (try simp only [Act.put, List.setIfInBounds_toArray, List.set_cons_zero, List.set_cons_succ])
  refine wpAnyH_take (i := 8) (oi := ({ dst := some 16, op := Op.binOp BinOp.neq 22 (Operand.tmp 15) (Operand.const (Value.int IntKind.u32 263)) 22, type := 4, pos := "zz_law_s2066c.go:68", after := #[{ on := 7, ground := Ground.data }, { on := 3, ground := Ground.guard }], guard := some (3, false) } : Oper)) (v := .bool false) rfl (by kernel_rfl) (by kernel_rfl) (by kernel_rfl) (fun _ _ _ h => h) (Or.inl ⟨by rfl, ?hy8⟩) (by assumption) ?rest8
  case hy8 => (intro w hSw; (try dsimp only at hSw); go_simp; try (first | with_reducible rfl | decide))
  (try simp only [Act.put, List.setIfInBounds_toArray, List.set_cons_zero, List.set_cons_succ])
  refine wpAnyH_take (i := 9) (oi := ({ dst := some 17, op := Op.pick (Operand.tmp 11) (Operand.const (Value.bool true)) (Operand.tmp 16), type := 4, pos := "zz_law_s2066c.go:68", after := #[{ on := 3, ground := Ground.data }, { on := 8, ground := Ground.data }], guard := none } : Oper)) (v := .bool false) rfl (by kernel_rfl) (by kernel_rfl) (by kernel_rfl) (fun _ _ _ h => h) (Or.inl ⟨by rfl, ?hy9⟩) (by assumption) ?rest9
  case hy9 => (intro w hSw; (try dsimp only at hSw); go_simp; try (first | with_reducible rfl | decide))
  (try simp only [Act.put, List.setIfInBounds_toArray, List.set_cons_zero, List.set_cons_succ])
  refine wpAnyH_take (i := 10) (oi := ({ dst := some 18, op := Op.move (Operand.tmp 17), type := 4, pos := "zz_law_s2066c.go:68", after := #[{ on := 9, ground := Ground.data }, { on := 3, ground := Ground.chain }], guard := none } : Oper)) (v := .bool false) rfl (by kernel_rfl) (by kernel_rfl) (by kernel_rfl) (fun _ _ _ h => h) (Or.inl ⟨by rfl, ?hy10⟩) (by assumption) ?rest10
  case hy10 => (intro w hSw; (try dsimp only at hSw); go_simp; try (first | with_reducible rfl | decide))
  (try simp only [Act.put, List.setIfInBounds_toArray, List.set_cons_zero, List.set_cons_succ])
  refine wpAnyH_take (i := 11) (oi := ({ dst := some 19, op := Op.move (Operand.tmp 1), type := 35, pos := "zz_law_s2066c.go:68", after := #[{ on := 10, ground := Ground.guard }], guard := some (10, false) } : Oper)) (v := ?v11) rfl (by kernel_rfl) (by kernel_rfl) (by kernel_rfl) (fun _ _ _ h => h) (Or.inl ⟨by rfl, ?hy11⟩) (by assumption) ?rest11
  case hy11 => (intro w hSw; (try dsimp only at hSw); go_simp; try (first | with_reducible rfl | decide))
  (try simp only [Act.put, List.setIfInBounds_toArray, List.set_cons_zero, List.set_cons_succ])
  refine wpAnyH_take (i := 12) (oi := ({ dst := some 20, op := Op.indexAddr 35 (Operand.tmp 19) (Operand.const (Value.int IntKind.i64 0)), type := 0, pos := "zz_law_s2066c.go:68", after := #[{ on := 11, ground := Ground.data }, { on := 10, ground := Ground.guard }], guard := some (10, false) } : Oper)) (v := .pointer (some ⟨g, 0, none⟩)) rfl (by kernel_rfl) (by kernel_rfl) (by kernel_rfl) (fun _ _ _ h => h) (Or.inl ⟨by rfl, ?hy12⟩) (by assumption) ?rest12
  case hy12 => (intro w hSw; (try dsimp only at hSw); go_simp; try (first | with_reducible rfl | decide))
  (try simp only [Act.put, List.setIfInBounds_toArray, List.set_cons_zero, List.set_cons_succ])
  refine wpAnyH_take (i := 13) (oi := ({ dst := some 21, op := Op.fieldAddr 41 (Operand.tmp 20) 3, type := 0, pos := "zz_law_s2066c.go:68", after := #[{ on := 12, ground := Ground.data }, { on := 10, ground := Ground.guard }], guard := some (10, false) } : Oper)) (v := ?v13) rfl (by kernel_rfl) (by kernel_rfl) (by kernel_rfl) (fun _ _ _ h => h) (Or.inl ⟨by rfl, ?hy13⟩) (by assumption) ?rest13
  case hy13 => (intro w hSw; (try dsimp only at hSw); go_simp; try (first | with_reducible rfl | decide))
  (try simp only [Act.put, List.setIfInBounds_toArray, List.set_cons_zero, List.set_cons_succ])
  refine wpAnyH_take (i := 14) (oi := ({ dst := some 22, op := Op.load 23 (Operand.tmp 21), type := 23, pos := "zz_law_s2066c.go:68", after := #[{ on := 13, ground := Ground.data }, { on := 10, ground := Ground.guard }], guard := some (10, false) } : Oper)) (v := ?v14) rfl (by kernel_rfl) (by kernel_rfl) (by kernel_rfl) (fun _ _ _ h => h) (Or.inl ⟨by rfl, ?hy14⟩) (by assumption) ?rest14
  case hy14 => (intro w hSw; (try dsimp only at hSw); go_simp; try (first | with_reducible rfl | decide))
  (try simp only [Act.put, List.setIfInBounds_toArray, List.set_cons_zero, List.set_cons_succ])
  refine wpAnyH_take (i := 15) (oi := ({ dst := some 23, op := Op.fieldAddr 28 (Operand.tmp 2) 6, type := 0, pos := "zz_law_s2066c.go:68", after := #[{ on := 10, ground := Ground.guard }], guard := some (10, false) } : Oper)) (v := ?v15) rfl (by kernel_rfl) (by kernel_rfl) (by kernel_rfl) (fun _ _ _ h => h) (Or.inl ⟨by rfl, ?hy15⟩) (by assumption) ?rest15
  case hy15 => (intro w hSw; (try dsimp only at hSw); go_simp; try (first | with_reducible rfl | decide))
  (try simp only [Act.put, List.setIfInBounds_toArray, List.set_cons_zero, List.set_cons_succ])
  refine wpAnyH_take (i := 16) (oi := ({ dst := some 24, op := Op.load 23 (Operand.tmp 23), type := 23, pos := "zz_law_s2066c.go:68", after := #[{ on := 15, ground := Ground.data }, { on := 10, ground := Ground.guard }], guard := some (10, false) } : Oper)) (v := ?v16) rfl (by kernel_rfl) (by kernel_rfl) (by kernel_rfl) (fun _ _ _ h => h) (Or.inl ⟨by rfl, ?hy16⟩) (by assumption) ?rest16
  case hy16 => (intro w hSw; (try dsimp only at hSw); go_simp; try (first | with_reducible rfl | decide))
  (try simp only [Act.put, List.setIfInBounds_toArray, List.set_cons_zero, List.set_cons_succ])
  refine wpAnyH_ready (rs := [17]) (by kernel_rfl) (by simp) ?_
  refine AllReadyH.cons (o := ({ dst := some 25, op := Op.call { callee := Callee.value (Operand.func 22), args := #[Operand.tmp 22, Operand.tmp 24], argTypes := #[23, 23] }, type := 4, pos := "zz_law_s2066c.go:68", after := #[{ on := 14, ground := Ground.data }, { on := 16, ground := Ground.data }, { on := 10, ground := Ground.chain }, { on := 10, ground := Ground.guard }], guard := some (10, false) } : Oper)) rfl (fun K hK => ?_) AllReadyH.nil
  go_simp
  refine (equal_same _ _ s _ (HC.out.1 _ (gdrew _ _)) (HC.out.2 _ (gdrew _ _))).mono ?_
  rintro e w2 ⟨rfl, rfl⟩
  refine hK.out _ _ ?hS17 (fun hHeld2 => ?_)
  case hS17 => exact HS.out _ (gdrew _ _)
  clear hK K hHeld
  have hHeld := hHeld2
  clear hHeld2
  (try simp only [Act.put, List.setIfInBounds_toArray, List.set_cons_zero, List.set_cons_succ])
  refine wpAnyH_take (i := 18) (oi := ({ dst := some 26, op := Op.unOp UnOp.not 4 (Operand.tmp 25), type := 4, pos := "zz_law_s2066c.go:68", after := #[{ on := 17, ground := Ground.data }, { on := 10, ground := Ground.guard }], guard := some (10, false) } : Oper)) (v := .bool false) rfl (by kernel_rfl) (by kernel_rfl) (by kernel_rfl) (fun _ _ _ h => h) (Or.inl ⟨by rfl, ?hy18⟩) (by assumption) ?rest18
  case hy18 => (intro w hSw; (try dsimp only at hSw); go_simp; try (first | with_reducible rfl | decide))
  (try simp only [Act.put, List.setIfInBounds_toArray, List.set_cons_zero, List.set_cons_succ])
  refine wpAnyH_take (i := 19) (oi := ({ dst := some 27, op := Op.pick (Operand.tmp 18) (Operand.const (Value.bool true)) (Operand.tmp 26), type := 4, pos := "zz_law_s2066c.go:68", after := #[{ on := 10, ground := Ground.data }, { on := 18, ground := Ground.data }], guard := none } : Oper)) (v := .bool false) rfl (by kernel_rfl) (by kernel_rfl) (by kernel_rfl) (fun _ _ _ h => h) (Or.inl ⟨by rfl, ?hy19⟩) (by assumption) ?rest19
  case hy19 => (intro w hSw; (try dsimp only at hSw); go_simp; try (first | with_reducible rfl | decide))
  (try simp only [Act.put, List.setIfInBounds_toArray, List.set_cons_zero, List.set_cons_succ])
  refine wpAnyH_done (by kernel_rfl) ?_ _
  exact NoPanic.normal (HQ.out _ _ _ _ _ _ _ _ _ _ _ _ _ _ _ _ _ _ _ _ (gdrew _ _))

set_option maxHeartbeats 3200000 in
/-- (f8) zzs2066cprefix, with a Session-Id. -/
theorem prefix_sid (fl cmd app hop ete : Int) (sa : Option Addr) (sl sc : Nat) (host realm prod : ByteArray) (st i0 i1 i2 i3 port : Int) (ia : Option Addr) (il ic : Nat) (va : Option Addr) (vl vc : Nat) (g n cap : Nat) (da : Option Addr) (dl dc : Nat) (s : ByteArray) (w : World) (hn : 3 ≤ n)
    (c0 : w.cell? ⟨g, 0, none⟩ = some (.int .u32 263)) (c3 : w.cell? ⟨g, 3, none⟩ = some (.slice da dl dc)) (c4 : w.cell? ⟨g, 4, none⟩ = some (.int .u32 264)) (c8 : w.cell? ⟨g, 8, none⟩ = some (.int .u32 296))
    (hC : (∀ w', w.grownBy w' none → (convert 23 9 (.slice da dl dc)).run Ybad.prog w' = .ok (.string s) w') ∧ (∀ w', w.grownBy w' none → (convert 23 9 (.slice sa sl sc)).run Ybad.prog w' = .ok (.string s) w')) :
    Calls Ybad.prog 8 #[.agg #[.int .u8 fl, .int .u32 cmd, .int .u32 app, .int .u32 hop, .int .u32 ete, .bool true, .slice sa sl sc, .string host, .string realm, .string prod, .int .u32 st, .int .u8 i0, .int .u8 i1, .int .u8 i2, .int .u8 i3, .int .u16 port, .slice ia il ic, .slice va vl vc], .slice (some ⟨g, 0, none⟩) n cap] w fun e w' => e = .returned (.int .i64 3) ∧ w.grownBy w' none := by
  have h3 : ¬ (n : Int) < 3 := by omega
  have b1 : (1 : Int) < n := by omega
  have b2 : (2 : Int) < n := by omega
  have HH : Hid (3 ≤ n ∧ w.cell? ⟨g, 0, none⟩ = some (.int .u32 263) ∧ w.cell? ⟨g, 3, none⟩ = some (.slice da dl dc) ∧ w.cell? ⟨g, 4, none⟩ = some (.int .u32 264) ∧ w.cell? ⟨g, 8, none⟩ = some (.int .u32 296)) := ⟨hn, c0, c3, c4, c8⟩
  have HC : Hid ((∀ w', w.grownBy w' none → (convert 23 9 (.slice da dl dc)).run Ybad.prog w' = .ok (.string s) w') ∧ (∀ w', w.grownBy w' none → (convert 23 9 (.slice sa sl sc)).run Ybad.prog w' = .ok (.string s) w')) := hC
  clear hn c0 c3 c4 c8 hC
  go_enter Ybad.func8, Ybad.ntmps8
  go_wp2_with fail
  obtain ⟨hn, c0, c3, c4, c8⟩ := HH.out
  have G0 : w.grownBy (w.alloc (.cells #[.int .u8 fl, .int .u32 cmd, .int .u32 app, .int .u32 hop, .int .u32 ete, .bool true, .slice sa sl sc, .string host, .string realm, .string prod, .int .u32 st, .int .u8 i0, .int .u8 i1, .int .u8 i2, .int .u8 i3, .int .u16 port, .slice ia il ic, .slice va vl vc] 28)) none := World.grownBy_alloc _ _ _
  refine prefix_r3 (hn := hn) (kg0 := gcell G0 c0) (kg3 := gcell G0 c3) (kb06 := cellOf (heap_alloc_new _ _)) (hC := ⟨fun w' h => HC.out.1 w' (gtrans G0 h), fun w' h => HC.out.2 w' (gtrans G0 h)⟩) (hQ := ?_)
  clear hn c0 c3
  intros
  rename_i w1 hg1
  have d4 : w1.cell? ⟨g, 4, none⟩ = some (.int .u32 264) := gcell (gtrans G0 hg1) c4
  have d8 : w1.cell? ⟨g, 8, none⟩ = some (.int .u32 296) := gcell (gtrans G0 hg1) c8
  have G1 : Hid (w.grownBy w1 none) := gtrans G0 hg1
  clear hg1 G0 HH c4 c8 HC
  go_wp2
  go_ret
  exact ⟨rfl, G1.out⟩

set_option maxHeartbeats 3200000 in
/-- (f8) zzs2066cprefix, without one. -/
theorem prefix_none (fl cmd app hop ete : Int) (sa : Option Addr) (sl sc : Nat) (host realm prod : ByteArray) (st i0 i1 i2 i3 port : Int) (ia : Option Addr) (il ic : Nat) (va : Option Addr) (vl vc : Nat) (g n cap : Nat) (w : World) (hn : 2 ≤ n)
    (c0 : w.cell? ⟨g, 0, none⟩ = some (.int .u32 264)) (c4 : w.cell? ⟨g, 4, none⟩ = some (.int .u32 296)) :
    Calls Ybad.prog 8 #[.agg #[.int .u8 fl, .int .u32 cmd, .int .u32 app, .int .u32 hop, .int .u32 ete, .bool false, .slice sa sl sc, .string host, .string realm, .string prod, .int .u32 st, .int .u8 i0, .int .u8 i1, .int .u8 i2, .int .u8 i3, .int .u16 port, .slice ia il ic, .slice va vl vc], .slice (some ⟨g, 0, none⟩) n cap] w fun e w' => e = .returned (.int .i64 2) ∧ w.grownBy w' none := by
  have hg : g < w.heap.size := World.block_lt_of_cell? _ _ c0
  have hgne : g ≠ w.heap.size := by omega
  have hgne2 : w.heap.size ≠ g := by omega
  have h3 : ¬ (n : Int) < 2 := by omega
  have b0 : (0 : Int) < n := by omega
  have b1 : (1 : Int) < n := by omega
  clear hn
  go_enter Ybad.func8, Ybad.ntmps8
  go_wp2
  go_ret
  exact ⟨rfl, World.grownBy_alloc _ _ _⟩
end Go.Proofs.YbulkaptmDoor
