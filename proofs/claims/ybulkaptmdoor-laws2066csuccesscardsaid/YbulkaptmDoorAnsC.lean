/-
  Answer: the message is begun; the Session-Id is looked for.
-/
import Derived.Test.YbulkaptmDoorKeep
import Derived.Deep.RegionHeld3
namespace Go.Proofs.YbulkaptmDoor
open Go.RowKit
set_option linter.unusedVariables false
set_option linter.unusedSimpArgs false
set_option maxRecDepth 100000

theorem set4_heap {w : World} {k : Nat} {a b c d : Value} {t : TypeId} {f : Nat × Nat} (h : w.heap[k]? = some (.cells #[a, b, c, d] t f)) (a' b' c' d' : Value) :
    ((((w.setCell ⟨k, 0, none⟩ a').setCell ⟨k, 1, none⟩ b').setCell ⟨k, 2, none⟩ c').setCell ⟨k, 3, none⟩ d').heap[k]? = some (.cells #[a', b', c', d'] t f) := by
  rw [heap_set _ _ _ _ _ _ _ (heap_set _ _ _ _ _ _ _ (heap_set _ _ _ _ _ _ _ (heap_set _ _ _ _ _ _ _ h)))]
  rfl

set_option maxHeartbeats 3200000 in
theorem ans_r1 {Q : Exit → Act → World → Prop} {ds : List Deferred} {t0 t2 t3 t4 t5 t6 t7 t8 t9 t10 t11 t12 t13 t14 t15 t16 t17 t18 t19 t20 t21 t22 t23 t24 t25 t26 t27 t28 t29 t30 t31 t32 t33 t34 t35 t36 t37 t38 t39 t40 t41 t42 t43 t44 t45 t46 t47 t48 t49 t50 t51 t52 t53 t54 t55 t56 t57 t58 t59 t60 t61 t62 t63 t64 t65 t66 t67 t68 : Value} {w : World} {m : Nat} {fl cmd app hop ete : Int} {sq : Value}
    (hm : w.heap[m]? = some (.cells #[.int .u8 fl, .int .u32 cmd, .int .u32 app, .int .u32 hop, .int .u32 ete, sq] 37 (0, 0)))
    (hQ : ∀ (s8 s9 s10 s11 s12 s13 s14 s15 s16 s17 s18 s19 s20 s21 s22 s23 s24 s25 s26 s27 s28 s29 s30 : Value) (w' : World), w.grownBy w' none → w'.heap[w.heap.size]? = some (.cells #[.int .u8 (bits .and .u8 fl 64), .int .u32 cmd, .int .u32 app, .int .u32 hop, .int .u32 ete, .slice none 0 0] 37 (0, 0)) → Q .normal { tmps := #[t0, (.pointer (some ⟨m, 0, none⟩)), t2, t3, t4, (.pointer (some ⟨w.heap.size, 0, none⟩)), t6, t7, s8, s9, s10, s11, s12, s13, s14, s15, s16, s17, s18, s19, s20, s21, s22, s23, s24, s25, s26, s27, s28, s29, s30, t31, t32, t33, t34, t35, t36, t37, t38, t39, t40, t41, t42, t43, t44, t45, t46, t47, t48, t49, t50, t51, t52, t53, t54, t55, t56, t57, t58, t59, t60, t61, t62, t63, t64, t65, t66, t67, t68], defers := ds } w') :
    (Code.region 1 #[{ dst := some 8, op := Op.move (Operand.tmp 1), type := 30, pos := "message.go:127", after := #[], guard := none }, { dst := some 9, op := Op.nilCheck (Operand.tmp 8), type := 0, pos := "message.go:127", after := #[{ on := 0, ground := Ground.data }], guard := none }, { dst := some 10, op := Op.fieldAddr 37 (Operand.tmp 9) 0, type := 0, pos := "message.go:127", after := #[{ on := 1, ground := Ground.data }], guard := none }, { dst := some 11, op := Op.load 5 (Operand.tmp 10), type := 5, pos := "message.go:127", after := #[{ on := 2, ground := Ground.data }], guard := none }, { dst := some 12, op := Op.binOp BinOp.and 5 (Operand.tmp 11) (Operand.const (Value.int IntKind.u8 64)) 5, type := 5, pos := "message.go:127", after := #[{ on := 3, ground := Ground.data }], guard := none }, { dst := some 13, op := Op.move (Operand.tmp 1), type := 30, pos := "message.go:127", after := #[], guard := none }, { dst := some 14, op := Op.nilCheck (Operand.tmp 13), type := 0, pos := "message.go:127", after := #[{ on := 5, ground := Ground.data }], guard := none }, { dst := some 15, op := Op.fieldAddr 37 (Operand.tmp 14) 1, type := 0, pos := "message.go:127", after := #[{ on := 6, ground := Ground.data }], guard := none }, { dst := some 16, op := Op.load 22 (Operand.tmp 15), type := 22, pos := "message.go:127", after := #[{ on := 7, ground := Ground.data }], guard := none }, { dst := some 17, op := Op.move (Operand.tmp 1), type := 30, pos := "message.go:127", after := #[], guard := none }, { dst := some 18, op := Op.nilCheck (Operand.tmp 17), type := 0, pos := "message.go:127", after := #[{ on := 9, ground := Ground.data }], guard := none }, { dst := some 19, op := Op.fieldAddr 37 (Operand.tmp 18) 2, type := 0, pos := "message.go:127", after := #[{ on := 10, ground := Ground.data }], guard := none }, { dst := some 20, op := Op.load 22 (Operand.tmp 19), type := 22, pos := "message.go:127", after := #[{ on := 11, ground := Ground.data }], guard := none }, { dst := some 21, op := Op.move (Operand.tmp 1), type := 30, pos := "message.go:127", after := #[], guard := none }, { dst := some 22, op := Op.nilCheck (Operand.tmp 21), type := 0, pos := "message.go:127", after := #[{ on := 13, ground := Ground.data }], guard := none }, { dst := some 23, op := Op.fieldAddr 37 (Operand.tmp 22) 3, type := 0, pos := "message.go:127", after := #[{ on := 14, ground := Ground.data }], guard := none }, { dst := some 24, op := Op.load 22 (Operand.tmp 23), type := 22, pos := "message.go:127", after := #[{ on := 15, ground := Ground.data }], guard := none }, { dst := some 25, op := Op.move (Operand.tmp 1), type := 30, pos := "message.go:127", after := #[], guard := none }, { dst := some 26, op := Op.nilCheck (Operand.tmp 25), type := 0, pos := "message.go:127", after := #[{ on := 17, ground := Ground.data }], guard := none }, { dst := some 27, op := Op.fieldAddr 37 (Operand.tmp 26) 4, type := 0, pos := "message.go:127", after := #[{ on := 18, ground := Ground.data }], guard := none }, { dst := some 28, op := Op.load 22 (Operand.tmp 27), type := 22, pos := "message.go:127", after := #[{ on := 19, ground := Ground.data }], guard := none }, { dst := some 29, op := Op.build 37 #[(0, Operand.tmp 12), (1, Operand.tmp 16), (2, Operand.tmp 20), (3, Operand.tmp 24), (4, Operand.tmp 28)], type := 37, pos := "message.go:127", after := #[{ on := 4, ground := Ground.data }, { on := 8, ground := Ground.data }, { on := 12, ground := Ground.data }, { on := 16, ground := Ground.data }, { on := 20, ground := Ground.data }], guard := none }, { dst := some 30, op := Op.box 37 (Operand.tmp 29), type := 30, pos := "message.go:127", after := #[{ on := 21, ground := Ground.data }], guard := none }, { dst := some 5, op := Op.assign (Operand.tmp 30), type := 30, pos := "message.go:127", after := #[{ on := 22, ground := Ground.data }, { on := 0, ground := Ground.phase }, { on := 1, ground := Ground.phase }, { on := 2, ground := Ground.phase }, { on := 3, ground := Ground.phase }, { on := 4, ground := Ground.phase }, { on := 5, ground := Ground.phase }, { on := 6, ground := Ground.phase }, { on := 7, ground := Ground.phase }, { on := 8, ground := Ground.phase }, { on := 9, ground := Ground.phase }, { on := 10, ground := Ground.phase }, { on := 11, ground := Ground.phase }, { on := 12, ground := Ground.phase }, { on := 13, ground := Ground.phase }, { on := 14, ground := Ground.phase }, { on := 15, ground := Ground.phase }, { on := 16, ground := Ground.phase }, { on := 17, ground := Ground.phase }, { on := 18, ground := Ground.phase }, { on := 19, ground := Ground.phase }, { on := 20, ground := Ground.phase }, { on := 21, ground := Ground.phase }, { on := 22, ground := Ground.phase }], guard := none }] true).wp Ybad.prog Q { tmps := #[t0, (.pointer (some ⟨m, 0, none⟩)), t2, t3, t4, t5, t6, t7, t8, t9, t10, t11, t12, t13, t14, t15, t16, t17, t18, t19, t20, t21, t22, t23, t24, t25, t26, t27, t28, t29, t30, t31, t32, t33, t34, t35, t36, t37, t38, t39, t40, t41, t42, t43, t44, t45, t46, t47, t48, t49, t50, t51, t52, t53, t54, t55, t56, t57, t58, t59, t60, t61, t62, t63, t64, t65, t66, t67, t68], defers := ds } w := by
  have HS : Hid (∀ w', w.grownBy w' none → (fun w' => w'.cell? ⟨m, 0, none⟩ = some (.int .u8 fl) ∧ w'.cell? ⟨m, 1, none⟩ = some (.int .u32 cmd) ∧ w'.cell? ⟨m, 2, none⟩ = some (.int .u32 app) ∧ w'.cell? ⟨m, 3, none⟩ = some (.int .u32 hop) ∧ w'.cell? ⟨m, 4, none⟩ = some (.int .u32 ete)) w') := by
    show ∀ w', w.grownBy w' none → (fun w' => w'.cell? ⟨m, 0, none⟩ = some (.int .u8 fl) ∧ w'.cell? ⟨m, 1, none⟩ = some (.int .u32 cmd) ∧ w'.cell? ⟨m, 2, none⟩ = some (.int .u32 app) ∧ w'.cell? ⟨m, 3, none⟩ = some (.int .u32 hop) ∧ w'.cell? ⟨m, 4, none⟩ = some (.int .u32 ete)) w'
    intro w' hg
    have hb := gblockN hg hm
    exact ⟨cellOf hb, cellOf hb, cellOf hb, cellOf hb, cellOf hb⟩
  have HQ : Hid (∀ (s8 s9 s10 s11 s12 s13 s14 s15 s16 s17 s18 s19 s20 s21 s22 s23 s24 s25 s26 s27 s28 s29 s30 : Value) (w' : World), w.grownBy w' none → w'.heap[w.heap.size]? = some (.cells #[.int .u8 (bits .and .u8 fl 64), .int .u32 cmd, .int .u32 app, .int .u32 hop, .int .u32 ete, .slice none 0 0] 37 (0, 0)) → Q .normal { tmps := #[t0, (.pointer (some ⟨m, 0, none⟩)), t2, t3, t4, (.pointer (some ⟨w.heap.size, 0, none⟩)), t6, t7, s8, s9, s10, s11, s12, s13, s14, s15, s16, s17, s18, s19, s20, s21, s22, s23, s24, s25, s26, s27, s28, s29, s30, t31, t32, t33, t34, t35, t36, t37, t38, t39, t40, t41, t42, t43, t44, t45, t46, t47, t48, t49, t50, t51, t52, t53, t54, t55, t56, t57, t58, t59, t60, t61, t62, t63, t64, t65, t66, t67, t68], defers := ds } w') := hQ
  clear hm hQ
  refine wp_region_noPanic ?_
  refine wp_region_held_drew (S := (fun w' => w'.cell? ⟨m, 0, none⟩ = some (.int .u8 fl) ∧ w'.cell? ⟨m, 1, none⟩ = some (.int .u32 cmd) ∧ w'.cell? ⟨m, 2, none⟩ = some (.int .u32 app) ∧ w'.cell? ⟨m, 3, none⟩ = some (.int .u32 hop) ∧ w'.cell? ⟨m, 4, none⟩ = some (.int .u32 ete))) (by kernel_rfl) ?hS (fun hHeld => ?_)
  case hS => exact HS.out _ (gdrew _ _)
  refine wpAnyH_take (i := 0) (oi := ({ dst := some 8, op := Op.move (Operand.tmp 1), type := 30, pos := "message.go:127", after := #[], guard := none } : Oper)) (v := ?v0) rfl (by kernel_rfl) (by kernel_rfl) (by kernel_rfl) (fun _ _ _ h => h) (Or.inl ⟨by rfl, ?hy0⟩) (by assumption) ?rest0
  case hy0 => (intro w hSw; (try dsimp only at hSw); go_simp; try with_reducible rfl)
  (try simp only [Act.put, List.setIfInBounds_toArray, List.set_cons_zero, List.set_cons_succ])
  refine wpAnyH_take (i := 1) (oi := ({ dst := some 9, op := Op.nilCheck (Operand.tmp 8), type := 0, pos := "message.go:127", after := #[{ on := 0, ground := Ground.data }], guard := none } : Oper)) (v := ?v1) rfl (by kernel_rfl) (by kernel_rfl) (by kernel_rfl) (fun _ _ _ h => h) (Or.inl ⟨by rfl, ?hy1⟩) (by assumption) ?rest1
  case hy1 => (intro w hSw; (try dsimp only at hSw); go_simp; try with_reducible rfl)
  (try simp only [Act.put, List.setIfInBounds_toArray, List.set_cons_zero, List.set_cons_succ])
  refine wpAnyH_take (i := 2) (oi := ({ dst := some 10, op := Op.fieldAddr 37 (Operand.tmp 9) 0, type := 0, pos := "message.go:127", after := #[{ on := 1, ground := Ground.data }], guard := none } : Oper)) (v := ?v2) rfl (by kernel_rfl) (by kernel_rfl) (by kernel_rfl) (fun _ _ _ h => h) (Or.inl ⟨by rfl, ?hy2⟩) (by assumption) ?rest2
  case hy2 => (intro w hSw; (try dsimp only at hSw); go_simp; try with_reducible rfl)
  (try simp only [Act.put, List.setIfInBounds_toArray, List.set_cons_zero, List.set_cons_succ])
  refine wpAnyH_take (i := 3) (oi := ({ dst := some 11, op := Op.load 5 (Operand.tmp 10), type := 5, pos := "message.go:127", after := #[{ on := 2, ground := Ground.data }], guard := none } : Oper)) (v := ?v3) rfl (by kernel_rfl) (by kernel_rfl) (by kernel_rfl) (fun _ _ _ h => h) (Or.inl ⟨by rfl, ?hy3⟩) (by assumption) ?rest3
  case hy3 => (intro w hSw; (try dsimp only at hSw); go_simp; try with_reducible rfl)
  (try simp only [Act.put, List.setIfInBounds_toArray, List.set_cons_zero, List.set_cons_succ])
  refine wpAnyH_take (i := 4) (oi := ({ dst := some 12, op := Op.binOp BinOp.and 5 (Operand.tmp 11) (Operand.const (Value.int IntKind.u8 64)) 5, type := 5, pos := "message.go:127", after := #[{ on := 3, ground := Ground.data }], guard := none } : Oper)) (v := ?v4) rfl (by kernel_rfl) (by kernel_rfl) (by kernel_rfl) (fun _ _ _ h => h) (Or.inl ⟨by rfl, ?hy4⟩) (by assumption) ?rest4
  case hy4 => (intro w hSw; (try dsimp only at hSw); go_simp; try with_reducible rfl)
  (try simp only [Act.put, List.setIfInBounds_toArray, List.set_cons_zero, List.set_cons_succ])
  refine wpAnyH_take (i := 5) (oi := ({ dst := some 13, op := Op.move (Operand.tmp 1), type := 30, pos := "message.go:127", after := #[], guard := none } : Oper)) (v := ?v5) rfl (by kernel_rfl) (by kernel_rfl) (by kernel_rfl) (fun _ _ _ h => h) (Or.inl ⟨by rfl, ?hy5⟩) (by assumption) ?rest5
  case hy5 => (intro w hSw; (try dsimp only at hSw); go_simp; try with_reducible rfl)
  (try simp only [Act.put, List.setIfInBounds_toArray, List.set_cons_zero, List.set_cons_succ])
  refine wpAnyH_take (i := 6) (oi := ({ dst := some 14, op := Op.nilCheck (Operand.tmp 13), type := 0, pos := "message.go:127", after := #[{ on := 5, ground := Ground.data }], guard := none } : Oper)) (v := ?v6) rfl (by kernel_rfl) (by kernel_rfl) (by kernel_rfl) (fun _ _ _ h => h) (Or.inl ⟨by rfl, ?hy6⟩) (by assumption) ?rest6
  case hy6 => (intro w hSw; (try dsimp only at hSw); go_simp; try with_reducible rfl)
  (try simp only [Act.put, List.setIfInBounds_toArray, List.set_cons_zero, List.set_cons_succ])
  refine wpAnyH_take (i := 7) (oi := ({ dst := some 15, op := Op.fieldAddr 37 (Operand.tmp 14) 1, type := 0, pos := "message.go:127", after := #[{ on := 6, ground := Ground.data }], guard := none } : Oper)) (v := ?v7) rfl (by kernel_rfl) (by kernel_rfl) (by kernel_rfl) (fun _ _ _ h => h) (Or.inl ⟨by rfl, ?hy7⟩) (by assumption) ?rest7
  case hy7 => (intro w hSw; (try dsimp only at hSw); go_simp; try with_reducible rfl)
  (try simp only [Act.put, List.setIfInBounds_toArray, List.set_cons_zero, List.set_cons_succ])
  refine wpAnyH_take (i := 8) (oi := ({ dst := some 16, op := Op.load 22 (Operand.tmp 15), type := 22, pos := "message.go:127", after := #[{ on := 7, ground := Ground.data }], guard := none } : Oper)) (v := ?v8) rfl (by kernel_rfl) (by kernel_rfl) (by kernel_rfl) (fun _ _ _ h => h) (Or.inl ⟨by rfl, ?hy8⟩) (by assumption) ?rest8
  case hy8 => (intro w hSw; (try dsimp only at hSw); go_simp; try with_reducible rfl)
  (try simp only [Act.put, List.setIfInBounds_toArray, List.set_cons_zero, List.set_cons_succ])
  refine wpAnyH_take (i := 9) (oi := ({ dst := some 17, op := Op.move (Operand.tmp 1), type := 30, pos := "message.go:127", after := #[], guard := none } : Oper)) (v := ?v9) rfl (by kernel_rfl) (by kernel_rfl) (by kernel_rfl) (fun _ _ _ h => h) (Or.inl ⟨by rfl, ?hy9⟩) (by assumption) ?rest9
  case hy9 => (intro w hSw; (try dsimp only at hSw); go_simp; try with_reducible rfl)
  (try simp only [Act.put, List.setIfInBounds_toArray, List.set_cons_zero, List.set_cons_succ])
  refine wpAnyH_take (i := 10) (oi := ({ dst := some 18, op := Op.nilCheck (Operand.tmp 17), type := 0, pos := "message.go:127", after := #[{ on := 9, ground := Ground.data }], guard := none } : Oper)) (v := ?v10) rfl (by kernel_rfl) (by kernel_rfl) (by kernel_rfl) (fun _ _ _ h => h) (Or.inl ⟨by rfl, ?hy10⟩) (by assumption) ?rest10
  case hy10 => (intro w hSw; (try dsimp only at hSw); go_simp; try with_reducible rfl)
  (try simp only [Act.put, List.setIfInBounds_toArray, List.set_cons_zero, List.set_cons_succ])
  refine wpAnyH_take (i := 11) (oi := ({ dst := some 19, op := Op.fieldAddr 37 (Operand.tmp 18) 2, type := 0, pos := "message.go:127", after := #[{ on := 10, ground := Ground.data }], guard := none } : Oper)) (v := ?v11) rfl (by kernel_rfl) (by kernel_rfl) (by kernel_rfl) (fun _ _ _ h => h) (Or.inl ⟨by rfl, ?hy11⟩) (by assumption) ?rest11
  case hy11 => (intro w hSw; (try dsimp only at hSw); go_simp; try with_reducible rfl)
  (try simp only [Act.put, List.setIfInBounds_toArray, List.set_cons_zero, List.set_cons_succ])
  refine wpAnyH_take (i := 12) (oi := ({ dst := some 20, op := Op.load 22 (Operand.tmp 19), type := 22, pos := "message.go:127", after := #[{ on := 11, ground := Ground.data }], guard := none } : Oper)) (v := ?v12) rfl (by kernel_rfl) (by kernel_rfl) (by kernel_rfl) (fun _ _ _ h => h) (Or.inl ⟨by rfl, ?hy12⟩) (by assumption) ?rest12
  case hy12 => (intro w hSw; (try dsimp only at hSw); go_simp; try with_reducible rfl)
  (try simp only [Act.put, List.setIfInBounds_toArray, List.set_cons_zero, List.set_cons_succ])
  refine wpAnyH_take (i := 13) (oi := ({ dst := some 21, op := Op.move (Operand.tmp 1), type := 30, pos := "message.go:127", after := #[], guard := none } : Oper)) (v := ?v13) rfl (by kernel_rfl) (by kernel_rfl) (by kernel_rfl) (fun _ _ _ h => h) (Or.inl ⟨by rfl, ?hy13⟩) (by assumption) ?rest13
  case hy13 => (intro w hSw; (try dsimp only at hSw); go_simp; try with_reducible rfl)
  (try simp only [Act.put, List.setIfInBounds_toArray, List.set_cons_zero, List.set_cons_succ])
  refine wpAnyH_take (i := 14) (oi := ({ dst := some 22, op := Op.nilCheck (Operand.tmp 21), type := 0, pos := "message.go:127", after := #[{ on := 13, ground := Ground.data }], guard := none } : Oper)) (v := ?v14) rfl (by kernel_rfl) (by kernel_rfl) (by kernel_rfl) (fun _ _ _ h => h) (Or.inl ⟨by rfl, ?hy14⟩) (by assumption) ?rest14
  case hy14 => (intro w hSw; (try dsimp only at hSw); go_simp; try with_reducible rfl)
  (try simp only [Act.put, List.setIfInBounds_toArray, List.set_cons_zero, List.set_cons_succ])
  refine wpAnyH_take (i := 15) (oi := ({ dst := some 23, op := Op.fieldAddr 37 (Operand.tmp 22) 3, type := 0, pos := "message.go:127", after := #[{ on := 14, ground := Ground.data }], guard := none } : Oper)) (v := ?v15) rfl (by kernel_rfl) (by kernel_rfl) (by kernel_rfl) (fun _ _ _ h => h) (Or.inl ⟨by rfl, ?hy15⟩) (by assumption) ?rest15
  case hy15 => (intro w hSw; (try dsimp only at hSw); go_simp; try with_reducible rfl)
  (try simp only [Act.put, List.setIfInBounds_toArray, List.set_cons_zero, List.set_cons_succ])
  refine wpAnyH_take (i := 16) (oi := ({ dst := some 24, op := Op.load 22 (Operand.tmp 23), type := 22, pos := "message.go:127", after := #[{ on := 15, ground := Ground.data }], guard := none } : Oper)) (v := ?v16) rfl (by kernel_rfl) (by kernel_rfl) (by kernel_rfl) (fun _ _ _ h => h) (Or.inl ⟨by rfl, ?hy16⟩) (by assumption) ?rest16
  case hy16 => (intro w hSw; (try dsimp only at hSw); go_simp; try with_reducible rfl)
  (try simp only [Act.put, List.setIfInBounds_toArray, List.set_cons_zero, List.set_cons_succ])
  refine wpAnyH_take (i := 17) (oi := ({ dst := some 25, op := Op.move (Operand.tmp 1), type := 30, pos := "message.go:127", after := #[], guard := none } : Oper)) (v := ?v17) rfl (by kernel_rfl) (by kernel_rfl) (by kernel_rfl) (fun _ _ _ h => h) (Or.inl ⟨by rfl, ?hy17⟩) (by assumption) ?rest17
  case hy17 => (intro w hSw; (try dsimp only at hSw); go_simp; try with_reducible rfl)
  (try simp only [Act.put, List.setIfInBounds_toArray, List.set_cons_zero, List.set_cons_succ])
  refine wpAnyH_take (i := 18) (oi := ({ dst := some 26, op := Op.nilCheck (Operand.tmp 25), type := 0, pos := "message.go:127", after := #[{ on := 17, ground := Ground.data }], guard := none } : Oper)) (v := ?v18) rfl (by kernel_rfl) (by kernel_rfl) (by kernel_rfl) (fun _ _ _ h => h) (Or.inl ⟨by rfl, ?hy18⟩) (by assumption) ?rest18
  case hy18 => (intro w hSw; (try dsimp only at hSw); go_simp; try with_reducible rfl)
  (try simp only [Act.put, List.setIfInBounds_toArray, List.set_cons_zero, List.set_cons_succ])
  refine wpAnyH_take (i := 19) (oi := ({ dst := some 27, op := Op.fieldAddr 37 (Operand.tmp 26) 4, type := 0, pos := "message.go:127", after := #[{ on := 18, ground := Ground.data }], guard := none } : Oper)) (v := ?v19) rfl (by kernel_rfl) (by kernel_rfl) (by kernel_rfl) (fun _ _ _ h => h) (Or.inl ⟨by rfl, ?hy19⟩) (by assumption) ?rest19
  case hy19 => (intro w hSw; (try dsimp only at hSw); go_simp; try with_reducible rfl)
  (try simp only [Act.put, List.setIfInBounds_toArray, List.set_cons_zero, List.set_cons_succ])
  refine wpAnyH_take (i := 20) (oi := ({ dst := some 28, op := Op.load 22 (Operand.tmp 27), type := 22, pos := "message.go:127", after := #[{ on := 19, ground := Ground.data }], guard := none } : Oper)) (v := ?v20) rfl (by kernel_rfl) (by kernel_rfl) (by kernel_rfl) (fun _ _ _ h => h) (Or.inl ⟨by rfl, ?hy20⟩) (by assumption) ?rest20
  case hy20 => (intro w hSw; (try dsimp only at hSw); go_simp; try with_reducible rfl)
  (try simp only [Act.put, List.setIfInBounds_toArray, List.set_cons_zero, List.set_cons_succ])
  refine wpAnyH_take (i := 21) (oi := ({ dst := some 29, op := Op.build 37 #[(0, Operand.tmp 12), (1, Operand.tmp 16), (2, Operand.tmp 20), (3, Operand.tmp 24), (4, Operand.tmp 28)], type := 37, pos := "message.go:127", after := #[{ on := 4, ground := Ground.data }, { on := 8, ground := Ground.data }, { on := 12, ground := Ground.data }, { on := 16, ground := Ground.data }, { on := 20, ground := Ground.data }], guard := none } : Oper)) (v := ?v21) rfl (by kernel_rfl) (by kernel_rfl) (by kernel_rfl) (fun _ _ _ h => h) (Or.inl ⟨by rfl, ?hy21⟩) (by assumption) ?rest21
  case hy21 => (intro w hSw; (try dsimp only at hSw); go_simp; try with_reducible rfl)
  (try simp only [Act.put, List.setIfInBounds_toArray, List.set_cons_zero, List.set_cons_succ])
  refine wpAnyH_ready (rs := [22]) (by kernel_rfl) (by simp) ?_
  refine AllReadyH.cons (o := ({ dst := some 30, op := Op.box 37 (Operand.tmp 29), type := 30, pos := "message.go:127", after := #[{ on := 21, ground := Ground.data }], guard := none } : Oper)) rfl (fun K hK => ?_) AllReadyH.nil
  go_simp
  obtain ⟨w1, hw1⟩ : ∃ w1, w1 = (w.alloc (.cells #[.int .u8 (bits .and .u8 fl 64), .int .u32 cmd, .int .u32 app, .int .u32 hop, .int .u32 ete, .slice none 0 0] 37)).drew := ⟨_, rfl⟩
  rw [← hw1]
  have G1 : Hid (w.grownBy w1 none) := by show w.grownBy w1 none; rw [hw1]; exact gtrans (World.grownBy_alloc _ _ _) (gdrew _ _)
  have P1 : Hid (w1.heap[w.heap.size]? = some (.cells #[.int .u8 (bits .and .u8 fl 64), .int .u32 cmd, .int .u32 app, .int .u32 hop, .int .u32 ete, .slice none 0 0] 37 (0, 0))) := by show w1.heap[w.heap.size]? = some (.cells #[.int .u8 (bits .and .u8 fl 64), .int .u32 cmd, .int .u32 app, .int .u32 hop, .int .u32 ete, .slice none 0 0] 37 (0, 0)); rw [hw1]; exact gblockN (gdrew _ _) (heap_alloc_new _ _)
  clear hw1
  refine hK.out _ _ ?hS22 (fun hHeld2 => ?_)
  case hS22 => exact HS.out _ G1.out
  clear hK K hHeld
  have hHeld := hHeld2
  clear hHeld2
  (try simp only [Act.put, List.setIfInBounds_toArray, List.set_cons_zero, List.set_cons_succ])
  refine wpAnyH_take (i := 23) (oi := ({ dst := some 5, op := Op.assign (Operand.tmp 30), type := 30, pos := "message.go:127", after := #[{ on := 22, ground := Ground.data }, { on := 0, ground := Ground.phase }, { on := 1, ground := Ground.phase }, { on := 2, ground := Ground.phase }, { on := 3, ground := Ground.phase }, { on := 4, ground := Ground.phase }, { on := 5, ground := Ground.phase }, { on := 6, ground := Ground.phase }, { on := 7, ground := Ground.phase }, { on := 8, ground := Ground.phase }, { on := 9, ground := Ground.phase }, { on := 10, ground := Ground.phase }, { on := 11, ground := Ground.phase }, { on := 12, ground := Ground.phase }, { on := 13, ground := Ground.phase }, { on := 14, ground := Ground.phase }, { on := 15, ground := Ground.phase }, { on := 16, ground := Ground.phase }, { on := 17, ground := Ground.phase }, { on := 18, ground := Ground.phase }, { on := 19, ground := Ground.phase }, { on := 20, ground := Ground.phase }, { on := 21, ground := Ground.phase }, { on := 22, ground := Ground.phase }], guard := none } : Oper)) (v := ?v23) rfl (by kernel_rfl) (by kernel_rfl) (by kernel_rfl) (fun _ _ _ h => h) (Or.inl ⟨by rfl, ?hy23⟩) (by assumption) ?rest23
  case hy23 => (intro w hSw; (try dsimp only at hSw); go_simp; try with_reducible rfl)
  (try simp only [Act.put, List.setIfInBounds_toArray, List.set_cons_zero, List.set_cons_succ])
  refine wpAnyH_done (by kernel_rfl) ?_ _
  exact NoPanic.normal (HQ.out _ _ _ _ _ _ _ _ _ _ _ _ _ _ _ _ _ _ _ _ _ _ _ _ G1.out P1.out)

set_option maxHeartbeats 6400000 in
theorem ans_r2 {Q : Exit → Act → World → Prop} {ds : List Deferred} {t0 t2 t3 t4 t5 t6 t7 t8 t9 t10 t11 t12 t13 t14 t15 t16 t17 t18 t19 t20 t21 t22 t23 t24 t25 t26 t27 t28 t29 t30 t31 t32 t33 t34 t35 t36 t37 t38 t39 t40 t41 t42 t43 t44 t45 t46 t47 t48 t49 t50 t51 t52 t53 t54 t55 t56 t57 t58 t59 t60 t61 t62 t63 t64 t65 t66 t67 t68 : Value} {w : World} {m : Nat} {fl cmd app hop ete : Int} {sq : Value} {sa : Av} {ok : Bool} {nm : Nat → ByteArray} {z : Addr}
    (hm : w.heap[m]? = some (.cells #[.int .u8 fl, .int .u32 cmd, .int .u32 app, .int .u32 hop, .int .u32 ete, sq] 37 (0, 0))) (hG : Globs w nm z) (hfind : ∀ w', w.grownBy w' none → Calls Ybad.prog 24 #[sq, .agg #[.string (nm 6), .int .u32 263, .int .u32 0, .bool true, .int .u8 1]] w' fun e w'' => e = .returned (.tuple #[.agg #[.int .u32 sa.code, .int .u8 sa.flags, .int .u32 sa.vendor, .slice sa.da sa.dl sa.dc], .bool ok]) ∧ w'.grownBy w'' none)
    (hQ : ∀ (s31 s32 s33 s34 s35 s36 s37 s38 s39 : Value) (w' : World) (q : Nat), w.grownBy w' none → w.heap.size ≤ q → w'.heap[q]? = some (.cells #[.int .u32 sa.code, .int .u8 sa.flags, .int .u32 sa.vendor, .slice sa.da sa.dl sa.dc] 41 (0, 0)) → Q .normal { tmps := #[t0, (.pointer (some ⟨m, 0, none⟩)), t2, t3, t4, t5, (.pointer (some ⟨q, 0, none⟩)), (.bool ok), t8, t9, t10, t11, t12, t13, t14, t15, t16, t17, t18, t19, t20, t21, t22, t23, t24, t25, t26, t27, t28, t29, t30, s31, s32, s33, s34, s35, s36, s37, s38, s39, t40, t41, t42, t43, t44, t45, t46, t47, t48, t49, t50, t51, t52, t53, t54, t55, t56, t57, t58, t59, t60, t61, t62, t63, t64, t65, t66, t67, t68], defers := ds } w') :
    (Code.region 2 #[{ dst := some 32, op := Op.move (Operand.tmp 1), type := 30, pos := "message.go:134", after := #[], guard := none }, { dst := some 33, op := Op.nilCheck (Operand.tmp 32), type := 0, pos := "message.go:134", after := #[{ on := 0, ground := Ground.data }], guard := none }, { dst := some 34, op := Op.fieldAddr 37 (Operand.tmp 33) 5, type := 0, pos := "message.go:134", after := #[{ on := 1, ground := Ground.data }], guard := none }, { dst := some 35, op := Op.load 35 (Operand.tmp 34), type := 35, pos := "message.go:134", after := #[{ on := 2, ground := Ground.data }], guard := none }, { dst := some 36, op := Op.load 122 (Operand.global 6), type := 122, pos := "message.go:134", after := #[], guard := none }, { dst := some 37, op := Op.call { callee := Callee.value (Operand.func 24), args := #[Operand.tmp 35, Operand.tmp 36], argTypes := #[35, 122] }, type := 135, pos := "message.go:134", after := #[{ on := 3, ground := Ground.data }, { on := 4, ground := Ground.data }], guard := none }, { dst := some 31, op := Op.move (Operand.tmp 37), type := 135, pos := "message.go:134", after := #[{ on := 5, ground := Ground.data }], guard := none }, { dst := some 38, op := Op.extract (Operand.tmp 31) 0, type := 41, pos := "message.go:134", after := #[{ on := 6, ground := Ground.data }], guard := none }, { dst := some 39, op := Op.extract (Operand.tmp 31) 1, type := 4, pos := "message.go:134", after := #[{ on := 6, ground := Ground.data }, { on := 10, ground := Ground.gcOnly Departure.lateStores }], guard := none }, { dst := some 6, op := Op.alloc 41, type := 0, pos := "message.go:134", after := #[], guard := none }, { dst := none, op := Op.store 41 (Operand.tmp 6) (Operand.tmp 38), type := 0, pos := "message.go:134", after := #[{ on := 9, ground := Ground.data }, { on := 7, ground := Ground.data }, { on := 5, ground := Ground.chain }, { on := 0, ground := Ground.phase }, { on := 1, ground := Ground.phase }, { on := 2, ground := Ground.phase }, { on := 3, ground := Ground.phase }, { on := 4, ground := Ground.phase }, { on := 5, ground := Ground.phase }, { on := 6, ground := Ground.phase }, { on := 7, ground := Ground.phase }, { on := 8, ground := Ground.textOnly Departure.lateStores }, { on := 9, ground := Ground.phase }], guard := none }, { dst := some 7, op := Op.assign (Operand.tmp 39), type := 4, pos := "message.go:134", after := #[{ on := 8, ground := Ground.data }, { on := 10, ground := Ground.chain }, { on := 0, ground := Ground.phase }, { on := 1, ground := Ground.phase }, { on := 2, ground := Ground.phase }, { on := 3, ground := Ground.phase }, { on := 4, ground := Ground.phase }, { on := 5, ground := Ground.phase }, { on := 6, ground := Ground.phase }, { on := 7, ground := Ground.phase }, { on := 8, ground := Ground.phase }, { on := 9, ground := Ground.phase }, { on := 10, ground := Ground.phase }], guard := none }] true).wp Ybad.prog Q { tmps := #[t0, (.pointer (some ⟨m, 0, none⟩)), t2, t3, t4, t5, t6, t7, t8, t9, t10, t11, t12, t13, t14, t15, t16, t17, t18, t19, t20, t21, t22, t23, t24, t25, t26, t27, t28, t29, t30, t31, t32, t33, t34, t35, t36, t37, t38, t39, t40, t41, t42, t43, t44, t45, t46, t47, t48, t49, t50, t51, t52, t53, t54, t55, t56, t57, t58, t59, t60, t61, t62, t63, t64, t65, t66, t67, t68], defers := ds } w := by
  have HS : Hid (∀ w', w.grownBy w' none → (fun w' => w'.cell? ⟨m, 5, none⟩ = some (sq) ∧ w'.cell? ⟨6, 0, none⟩ = some (.string (nm 6)) ∧ w'.cell? ⟨6, 1, none⟩ = some (.int .u32 263) ∧ w'.cell? ⟨6, 2, none⟩ = some (.int .u32 0) ∧ w'.cell? ⟨6, 3, none⟩ = some (.bool true) ∧ w'.cell? ⟨6, 4, none⟩ = some (.int .u8 1)) w') := by
    show ∀ w', w.grownBy w' none → (fun w' => w'.cell? ⟨m, 5, none⟩ = some (sq) ∧ w'.cell? ⟨6, 0, none⟩ = some (.string (nm 6)) ∧ w'.cell? ⟨6, 1, none⟩ = some (.int .u32 263) ∧ w'.cell? ⟨6, 2, none⟩ = some (.int .u32 0) ∧ w'.cell? ⟨6, 3, none⟩ = some (.bool true) ∧ w'.cell? ⟨6, 4, none⟩ = some (.int .u8 1)) w'
    intro w' hg
    have hb := gblockN hg hm
    have gg := hG.grow hg
    exact ⟨cellOf hb, gg.g6.c0, gg.g6.c1, gg.g6.c2, gg.g6.c3, gg.g6.c4⟩
  have HQ : Hid (∀ (s31 s32 s33 s34 s35 s36 s37 s38 s39 : Value) (w' : World) (q : Nat), w.grownBy w' none → w.heap.size ≤ q → w'.heap[q]? = some (.cells #[.int .u32 sa.code, .int .u8 sa.flags, .int .u32 sa.vendor, .slice sa.da sa.dl sa.dc] 41 (0, 0)) → Q .normal { tmps := #[t0, (.pointer (some ⟨m, 0, none⟩)), t2, t3, t4, t5, (.pointer (some ⟨q, 0, none⟩)), (.bool ok), t8, t9, t10, t11, t12, t13, t14, t15, t16, t17, t18, t19, t20, t21, t22, t23, t24, t25, t26, t27, t28, t29, t30, s31, s32, s33, s34, s35, s36, s37, s38, s39, t40, t41, t42, t43, t44, t45, t46, t47, t48, t49, t50, t51, t52, t53, t54, t55, t56, t57, t58, t59, t60, t61, t62, t63, t64, t65, t66, t67, t68], defers := ds } w') := hQ
  have HF : Hid (∀ w', w.grownBy w' none → Calls Ybad.prog 24 #[sq, .agg #[.string (nm 6), .int .u32 263, .int .u32 0, .bool true, .int .u8 1]] w' fun e w'' => e = .returned (.tuple #[.agg #[.int .u32 sa.code, .int .u8 sa.flags, .int .u32 sa.vendor, .slice sa.da sa.dl sa.dc], .bool ok]) ∧ w'.grownBy w'' none) := hfind
  have S_0 : w.cell? ⟨m, 5, none⟩ = some (sq) ∧ w.cell? ⟨6, 0, none⟩ = some (.string (nm 6)) ∧ w.cell? ⟨6, 1, none⟩ = some (.int .u32 263) ∧ w.cell? ⟨6, 2, none⟩ = some (.int .u32 0) ∧ w.cell? ⟨6, 3, none⟩ = some (.bool true) ∧ w.cell? ⟨6, 4, none⟩ = some (.int .u8 1) := HS.out w (World.grownBy.refl _ _)
  have hml : m < w.heap.size := lt_of_block hm
  have hbig : 17 ≤ w.heap.size := hG.big
  clear hm hQ hfind hG
  go_region_held3 (fun w' => w'.cell? ⟨m, 5, none⟩ = some (sq) ∧ w'.cell? ⟨6, 0, none⟩ = some (.string (nm 6)) ∧ w'.cell? ⟨6, 1, none⟩ = some (.int .u32 263) ∧ w'.cell? ⟨6, 2, none⟩ = some (.int .u32 0) ∧ w'.cell? ⟨6, 3, none⟩ = some (.bool true) ∧ w'.cell? ⟨6, 4, none⟩ = some (.int .u8 1))
    (first | with_reducible assumption | go_keep)
    (first
      | (go_at_call 24; refine (HF.out w.drew (gdrew _ _)).mono ?_; rintro e w2 ⟨rfl, hg2⟩
         have H12 : Hid (w.grownBy w2 none) := gtrans (gdrew _ _) hg2
         have S_2 : w2.cell? ⟨m, 5, none⟩ = some (sq) ∧ w2.cell? ⟨6, 0, none⟩ = some (.string (nm 6)) ∧ w2.cell? ⟨6, 1, none⟩ = some (.int .u32 263) ∧ w2.cell? ⟨6, 2, none⟩ = some (.int .u32 0) ∧ w2.cell? ⟨6, 3, none⟩ = some (.bool true) ∧ w2.cell? ⟨6, 4, none⟩ = some (.int .u8 1) := HS.out w2 H12.out
         have n0 : w.heap.size ≤ w2.heap.size := H12.out.size
         have n1 : m ≠ w2.heap.size := by omega
         have n2 : (6 : Nat) ≠ w2.heap.size := by omega
         have n3 : w2.heap.size ≠ m := n1.symm
         have n4 : w2.heap.size ≠ 6 := n2.symm
         clear hg2)
      | (go_at_call 24; refine (HF.out (w.alloc (.cells #[.int .u32 0, .int .u8 0, .int .u32 0, .slice none 0 0] 41)).drew (gtrans (World.grownBy_alloc _ _ _) (gdrew _ _))).mono ?_; rintro e w2 ⟨rfl, hg2⟩
         have H12 : Hid (w.grownBy w2 none) := gtrans (gtrans (World.grownBy_alloc _ _ _) (gdrew _ _)) hg2
         have S_2 : w2.cell? ⟨m, 5, none⟩ = some (sq) ∧ w2.cell? ⟨6, 0, none⟩ = some (.string (nm 6)) ∧ w2.cell? ⟨6, 1, none⟩ = some (.int .u32 263) ∧ w2.cell? ⟨6, 2, none⟩ = some (.int .u32 0) ∧ w2.cell? ⟨6, 3, none⟩ = some (.bool true) ∧ w2.cell? ⟨6, 4, none⟩ = some (.int .u8 1) := HS.out w2 H12.out
         have Q2 : Hid (w2.heap[w.heap.size]? = some (.cells #[.int .u32 0, .int .u8 0, .int .u32 0, .slice none 0 0] 41 (0, 0))) := gblockN hg2 (gblockN (gdrew _ _) (heap_alloc_new _ _))
         have f0 : w2.cell? ⟨w.heap.size, 0, none⟩ = some (.int .u32 0) := cellOf Q2.out
         have f1 : w2.cell? ⟨w.heap.size, 1, none⟩ = some (.int .u8 0) := cellOf Q2.out
         have f2 : w2.cell? ⟨w.heap.size, 2, none⟩ = some (.int .u32 0) := cellOf Q2.out
         have f3 : w2.cell? ⟨w.heap.size, 3, none⟩ = some (.slice none 0 0) := cellOf Q2.out
         have z0 : w2.frozen? ⟨w.heap.size, 0, none⟩ = false := frozenOf Q2.out
         have z1 : w2.frozen? ⟨w.heap.size, 1, none⟩ = false := frozenOf Q2.out
         have z2 : w2.frozen? ⟨w.heap.size, 2, none⟩ = false := frozenOf Q2.out
         have z3 : w2.frozen? ⟨w.heap.size, 3, none⟩ = false := frozenOf Q2.out
         have n1 : m ≠ w.heap.size := by omega
         have n2 : (6 : Nat) ≠ w.heap.size := by omega
         have n3 : w.heap.size ≠ m := n1.symm
         have n4 : w.heap.size ≠ 6 := n2.symm
         clear hg2))
  all_goals
    first
      | exact HQ.out _ _ _ _ _ _ _ _ _ _ _ (gtrans H12.out (World.grownBy_alloc _ _ _)) n0 (heap_alloc_new _ _)
      | exact HQ.out _ _ _ _ _ _ _ _ _ _ _ (gfresh H12.out (g4 _ _ _ _ _ _) (Nat.le_refl _)) (Nat.le_refl _) (set4_heap Q2.out _ _ _ _)
end Go.Proofs.YbulkaptmDoor
