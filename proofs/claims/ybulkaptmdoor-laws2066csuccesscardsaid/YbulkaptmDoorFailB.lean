/-
  Fail: the Experimental-Result.
-/
import Derived.Test.YbulkaptmDoorSrv
namespace Go.Proofs.YbulkaptmDoor
open Go.RowKit
set_option linter.unusedVariables false
set_option linter.unusedSimpArgs false
set_option maxRecDepth 100000

set_option maxHeartbeats 3200000 in
theorem fail_r4 {Q : Exit → Act → World → Prop} {ds : List Deferred} {t1 t2 t3 t5 t6 t7 t8 t9 t10 t11 t12 t13 t14 t15 t16 t17 t18 t19 t20 t21 t22 t23 t24 t25 t26 t27 t28 t29 t30 t31 t32 t33 t34 t35 t36 t37 t38 t39 t40 t41 t42 t43 t44 t45 t46 t47 t48 t49 t50 t51 t52 t53 t54 t55 t56 t57 t58 t59 t60 t61 t62 t63 t64 t65 t66 t67 t68 t69 t70 t71 t72 t73 t74 t75 t76 t77 t78 t79 t80 t81 t82 t83 t84 t85 t86 t87 t88 t89 t90 t91 t92 t93 t94 : Value} {w : World} {B p : Nat} {fl cmd app hop ete : Int} {sv : Value} {avs : List Av} {nm : Nat → ByteArray} {z : Addr} {e0 : Nat} {r v : Int} {ep : Value}
    (hms : MsgSt w B p fl cmd app hop ete sv avs) (hG : Globs w nm z) (hB : 17 ≤ B) (hn : avs.length ≤ 100000) (he : w.heap[e0]? = some (.cells #[.int .u32 r, .int .u32 v, ep] 51 (0, 0))) (hr0 : 0 ≤ r) (hr1 : r < 4294967296) (hv0 : 0 ≤ v) (hv1 : v < 4294967296)
    (hQ : ∀ (s20 s21 s22 s23 s24 s25 s26 s27 s28 s29 s30 s31 s32 s33 s34 s35 s36 s37 s38 s39 s40 s41 s42 s43 : Value) (w' : World) (a1 : Av), a1.code = 297 → AppPost w B p fl cmd app hop ete avs [a1] w' → Q .normal { tmps := #[(.pointer (some ⟨p, 0, none⟩)), t1, t2, t3, (.pointer (some ⟨e0, 0, none⟩)), t5, t6, t7, t8, t9, t10, t11, t12, t13, t14, t15, t16, t17, t18, t19, s20, s21, s22, s23, s24, s25, s26, s27, s28, s29, s30, s31, s32, s33, s34, s35, s36, s37, s38, s39, s40, s41, s42, s43, t44, t45, t46, t47, t48, t49, t50, t51, t52, t53, t54, t55, t56, t57, t58, t59, t60, t61, t62, t63, t64, t65, t66, t67, t68, t69, t70, t71, t72, t73, t74, t75, t76, t77, t78, t79, t80, t81, t82, t83, t84, t85, t86, t87, t88, t89, t90, t91, t92, t93, t94], defers := ds } w') :
    (Code.region 4 #[{ dst := some 20, op := Op.move (Operand.tmp 0), type := 30, pos := "message.go:192", after := #[], guard := none }, { dst := some 21, op := Op.move (Operand.tmp 0), type := 30, pos := "message.go:192", after := #[], guard := none }, { dst := some 22, op := Op.nilCheck (Operand.tmp 21), type := 0, pos := "message.go:192", after := #[{ on := 1, ground := Ground.data }], guard := none }, { dst := some 23, op := Op.fieldAddr 37 (Operand.tmp 22) 5, type := 0, pos := "message.go:192", after := #[{ on := 2, ground := Ground.data }], guard := none }, { dst := some 24, op := Op.load 35 (Operand.tmp 23), type := 35, pos := "message.go:192", after := #[{ on := 3, ground := Ground.data }], guard := none }, { dst := some 25, op := Op.load 122 (Operand.global 9), type := 122, pos := "message.go:192", after := #[], guard := none }, { dst := some 26, op := Op.load 122 (Operand.global 2), type := 122, pos := "message.go:192", after := #[], guard := none }, { dst := some 27, op := Op.move (Operand.tmp 4), type := 48, pos := "message.go:192", after := #[], guard := none }, { dst := some 28, op := Op.nilCheck (Operand.tmp 27), type := 0, pos := "message.go:192", after := #[{ on := 7, ground := Ground.data }], guard := none }, { dst := some 29, op := Op.fieldAddr 51 (Operand.tmp 28) 1, type := 0, pos := "message.go:192", after := #[{ on := 8, ground := Ground.data }], guard := none }, { dst := some 30, op := Op.load 22 (Operand.tmp 29), type := 22, pos := "message.go:192", after := #[{ on := 9, ground := Ground.data }], guard := none }, { dst := some 31, op := Op.call { callee := Callee.value (Operand.func 17), args := #[Operand.tmp 26, Operand.tmp 30], argTypes := #[122, 22] }, type := 41, pos := "message.go:193", after := #[{ on := 6, ground := Ground.data }, { on := 10, ground := Ground.data }], guard := none }, { dst := some 32, op := Op.load 122 (Operand.global 10), type := 122, pos := "message.go:192", after := #[], guard := none }, { dst := some 33, op := Op.move (Operand.tmp 4), type := 48, pos := "message.go:192", after := #[], guard := none }, { dst := some 34, op := Op.nilCheck (Operand.tmp 33), type := 0, pos := "message.go:192", after := #[{ on := 13, ground := Ground.data }], guard := none }, { dst := some 35, op := Op.fieldAddr 51 (Operand.tmp 34) 0, type := 0, pos := "message.go:192", after := #[{ on := 14, ground := Ground.data }], guard := none }, { dst := some 36, op := Op.load 22 (Operand.tmp 35), type := 22, pos := "message.go:192", after := #[{ on := 15, ground := Ground.data }], guard := none }, { dst := some 37, op := Op.call { callee := Callee.value (Operand.func 17), args := #[Operand.tmp 32, Operand.tmp 36], argTypes := #[122, 22] }, type := 41, pos := "message.go:194", after := #[{ on := 12, ground := Ground.data }, { on := 16, ground := Ground.data }, { on := 11, ground := Ground.chain }], guard := none }, { dst := some 38, op := Op.buildSlice 35 2 #[(0, Operand.tmp 31), (1, Operand.tmp 37)], type := 35, pos := "message.go:192", after := #[{ on := 11, ground := Ground.data }, { on := 17, ground := Ground.data }], guard := none }, { dst := some 39, op := Op.call { callee := Callee.value (Operand.func 25), args := #[Operand.tmp 25, Operand.tmp 38], argTypes := #[122, 35] }, type := 41, pos := "message.go:192", after := #[{ on := 5, ground := Ground.data }, { on := 18, ground := Ground.data }, { on := 17, ground := Ground.chain }], guard := none }, { dst := some 40, op := Op.buildSlice 35 1 #[(0, Operand.tmp 39)], type := 35, pos := "message.go:192", after := #[{ on := 19, ground := Ground.data }], guard := none }, { dst := some 41, op := Op.call { callee := Callee.builtin Builtin.append, args := #[Operand.tmp 24, Operand.tmp 40], argTypes := #[35, 35] }, type := 35, pos := "message.go:192", after := #[{ on := 4, ground := Ground.data }, { on := 20, ground := Ground.data }, { on := 19, ground := Ground.chain }], guard := none }, { dst := some 42, op := Op.nilCheck (Operand.tmp 20), type := 0, pos := "message.go:192", after := #[{ on := 0, ground := Ground.data }, { on := 0, ground := Ground.phase }, { on := 1, ground := Ground.phase }, { on := 2, ground := Ground.phase }, { on := 3, ground := Ground.phase }, { on := 4, ground := Ground.phase }, { on := 5, ground := Ground.phase }, { on := 6, ground := Ground.phase }, { on := 7, ground := Ground.phase }, { on := 8, ground := Ground.phase }, { on := 9, ground := Ground.phase }, { on := 10, ground := Ground.phase }, { on := 11, ground := Ground.phase }, { on := 12, ground := Ground.phase }, { on := 13, ground := Ground.phase }, { on := 14, ground := Ground.phase }, { on := 15, ground := Ground.phase }, { on := 16, ground := Ground.phase }, { on := 17, ground := Ground.phase }, { on := 18, ground := Ground.phase }, { on := 19, ground := Ground.phase }, { on := 20, ground := Ground.phase }, { on := 21, ground := Ground.phase }], guard := none }, { dst := some 43, op := Op.fieldAddr 37 (Operand.tmp 42) 5, type := 0, pos := "message.go:192", after := #[{ on := 22, ground := Ground.data }, { on := 0, ground := Ground.phase }, { on := 1, ground := Ground.phase }, { on := 2, ground := Ground.phase }, { on := 3, ground := Ground.phase }, { on := 4, ground := Ground.phase }, { on := 5, ground := Ground.phase }, { on := 6, ground := Ground.phase }, { on := 7, ground := Ground.phase }, { on := 8, ground := Ground.phase }, { on := 9, ground := Ground.phase }, { on := 10, ground := Ground.phase }, { on := 11, ground := Ground.phase }, { on := 12, ground := Ground.phase }, { on := 13, ground := Ground.phase }, { on := 14, ground := Ground.phase }, { on := 15, ground := Ground.phase }, { on := 16, ground := Ground.phase }, { on := 17, ground := Ground.phase }, { on := 18, ground := Ground.phase }, { on := 19, ground := Ground.phase }, { on := 20, ground := Ground.phase }, { on := 21, ground := Ground.phase }], guard := none }, { dst := none, op := Op.store 35 (Operand.tmp 43) (Operand.tmp 41), type := 0, pos := "message.go:192", after := #[{ on := 23, ground := Ground.data }, { on := 21, ground := Ground.data }, { on := 21, ground := Ground.chain }, { on := 0, ground := Ground.phase }, { on := 1, ground := Ground.phase }, { on := 2, ground := Ground.phase }, { on := 3, ground := Ground.phase }, { on := 4, ground := Ground.phase }, { on := 5, ground := Ground.phase }, { on := 6, ground := Ground.phase }, { on := 7, ground := Ground.phase }, { on := 8, ground := Ground.phase }, { on := 9, ground := Ground.phase }, { on := 10, ground := Ground.phase }, { on := 11, ground := Ground.phase }, { on := 12, ground := Ground.phase }, { on := 13, ground := Ground.phase }, { on := 14, ground := Ground.phase }, { on := 15, ground := Ground.phase }, { on := 16, ground := Ground.phase }, { on := 17, ground := Ground.phase }, { on := 18, ground := Ground.phase }, { on := 19, ground := Ground.phase }, { on := 20, ground := Ground.phase }, { on := 21, ground := Ground.phase }], guard := none }] true).wp Ybad.prog Q { tmps := #[(.pointer (some ⟨p, 0, none⟩)), t1, t2, t3, (.pointer (some ⟨e0, 0, none⟩)), t5, t6, t7, t8, t9, t10, t11, t12, t13, t14, t15, t16, t17, t18, t19, t20, t21, t22, t23, t24, t25, t26, t27, t28, t29, t30, t31, t32, t33, t34, t35, t36, t37, t38, t39, t40, t41, t42, t43, t44, t45, t46, t47, t48, t49, t50, t51, t52, t53, t54, t55, t56, t57, t58, t59, t60, t61, t62, t63, t64, t65, t66, t67, t68, t69, t70, t71, t72, t73, t74, t75, t76, t77, t78, t79, t80, t81, t82, t83, t84, t85, t86, t87, t88, t89, t90, t91, t92, t93, t94], defers := ds } w := by
  obtain ⟨i0, hi, hz0, hz1, hz2⟩ := info_parts info41
  have MS : Hid (MsgSt w B p fl cmd app hop ete sv avs) := hms
  have GL : Hid (Globs w nm z) := hG
  have HNN : Hid (avs.length ≤ 100000) := hn
  have HE : Hid (w.heap[e0]? = some (.cells #[.int .u32 r, .int .u32 v, ep] 51 (0, 0))) := he
  have HS : Hid (∀ w', w.grownBy w' sv.ownBlock → (fun w' => w'.cell? ⟨p, 5, none⟩ = some sv ∧ w'.cell? ⟨9, 0, none⟩ = some (.string (nm 9)) ∧ w'.cell? ⟨9, 1, none⟩ = some (.int .u32 297) ∧ w'.cell? ⟨9, 2, none⟩ = some (.int .u32 0) ∧ w'.cell? ⟨9, 3, none⟩ = some (.bool true) ∧ w'.cell? ⟨9, 4, none⟩ = some (.int .u8 9) ∧ w'.cell? ⟨2, 0, none⟩ = some (.string (nm 2)) ∧ w'.cell? ⟨2, 1, none⟩ = some (.int .u32 266) ∧ w'.cell? ⟨2, 2, none⟩ = some (.int .u32 0) ∧ w'.cell? ⟨2, 3, none⟩ = some (.bool true) ∧ w'.cell? ⟨2, 4, none⟩ = some (.int .u8 4) ∧ w'.cell? ⟨10, 0, none⟩ = some (.string (nm 10)) ∧ w'.cell? ⟨10, 1, none⟩ = some (.int .u32 298) ∧ w'.cell? ⟨10, 2, none⟩ = some (.int .u32 0) ∧ w'.cell? ⟨10, 3, none⟩ = some (.bool true) ∧ w'.cell? ⟨10, 4, none⟩ = some (.int .u8 4) ∧ w'.cell? ⟨e0, 0, none⟩ = some (.int .u32 r) ∧ w'.cell? ⟨e0, 1, none⟩ = some (.int .u32 v)) w') := by
    show ∀ w', w.grownBy w' sv.ownBlock → (fun w' => w'.cell? ⟨p, 5, none⟩ = some sv ∧ w'.cell? ⟨9, 0, none⟩ = some (.string (nm 9)) ∧ w'.cell? ⟨9, 1, none⟩ = some (.int .u32 297) ∧ w'.cell? ⟨9, 2, none⟩ = some (.int .u32 0) ∧ w'.cell? ⟨9, 3, none⟩ = some (.bool true) ∧ w'.cell? ⟨9, 4, none⟩ = some (.int .u8 9) ∧ w'.cell? ⟨2, 0, none⟩ = some (.string (nm 2)) ∧ w'.cell? ⟨2, 1, none⟩ = some (.int .u32 266) ∧ w'.cell? ⟨2, 2, none⟩ = some (.int .u32 0) ∧ w'.cell? ⟨2, 3, none⟩ = some (.bool true) ∧ w'.cell? ⟨2, 4, none⟩ = some (.int .u8 4) ∧ w'.cell? ⟨10, 0, none⟩ = some (.string (nm 10)) ∧ w'.cell? ⟨10, 1, none⟩ = some (.int .u32 298) ∧ w'.cell? ⟨10, 2, none⟩ = some (.int .u32 0) ∧ w'.cell? ⟨10, 3, none⟩ = some (.bool true) ∧ w'.cell? ⟨10, 4, none⟩ = some (.int .u8 4) ∧ w'.cell? ⟨e0, 0, none⟩ = some (.int .u32 r) ∧ w'.cell? ⟨e0, 1, none⟩ = some (.int .u32 v)) w'
    intro w' hg
    have g17 : Below 17 w w' := gbelow hg (Nat.le_trans hB MS.out.size) (fun k hk => Nat.le_trans hB (MS.out.row.lt _ hk).1)
    have gg := GL.out.below g17
    have hb := gblock hg HE.out (own_ne41 MS.out.row HE.out (by decide))
    exact ⟨cellOf (gblock hg MS.out.box (own_ne41 MS.out.row MS.out.box (by decide))), gg.g9.c0, gg.g9.c1, gg.g9.c2, gg.g9.c3, gg.g9.c4, gg.g2.c0, gg.g2.c1, gg.g2.c2, gg.g2.c3, gg.g2.c4, gg.g10.c0, gg.g10.c1, gg.g10.c2, gg.g10.c3, gg.g10.c4, cellOf hb, cellOf hb⟩
  have HQ : Hid (∀ (s20 s21 s22 s23 s24 s25 s26 s27 s28 s29 s30 s31 s32 s33 s34 s35 s36 s37 s38 s39 s40 s41 s42 s43 : Value) (w' : World) (a1 : Av), a1.code = 297 → AppPost w B p fl cmd app hop ete avs [a1] w' → Q .normal { tmps := #[(.pointer (some ⟨p, 0, none⟩)), t1, t2, t3, (.pointer (some ⟨e0, 0, none⟩)), t5, t6, t7, t8, t9, t10, t11, t12, t13, t14, t15, t16, t17, t18, t19, s20, s21, s22, s23, s24, s25, s26, s27, s28, s29, s30, s31, s32, s33, s34, s35, s36, s37, s38, s39, s40, s41, s42, s43, t44, t45, t46, t47, t48, t49, t50, t51, t52, t53, t54, t55, t56, t57, t58, t59, t60, t61, t62, t63, t64, t65, t66, t67, t68, t69, t70, t71, t72, t73, t74, t75, t76, t77, t78, t79, t80, t81, t82, t83, t84, t85, t86, t87, t88, t89, t90, t91, t92, t93, t94], defers := ds } w') := hQ
  clear hms hG hQ hn
  clear he
  refine wp_region_noPanic ?_
  refine wp_region_last (S := (fun w' => w'.cell? ⟨p, 5, none⟩ = some sv ∧ w'.cell? ⟨9, 0, none⟩ = some (.string (nm 9)) ∧ w'.cell? ⟨9, 1, none⟩ = some (.int .u32 297) ∧ w'.cell? ⟨9, 2, none⟩ = some (.int .u32 0) ∧ w'.cell? ⟨9, 3, none⟩ = some (.bool true) ∧ w'.cell? ⟨9, 4, none⟩ = some (.int .u8 9) ∧ w'.cell? ⟨2, 0, none⟩ = some (.string (nm 2)) ∧ w'.cell? ⟨2, 1, none⟩ = some (.int .u32 266) ∧ w'.cell? ⟨2, 2, none⟩ = some (.int .u32 0) ∧ w'.cell? ⟨2, 3, none⟩ = some (.bool true) ∧ w'.cell? ⟨2, 4, none⟩ = some (.int .u8 4) ∧ w'.cell? ⟨10, 0, none⟩ = some (.string (nm 10)) ∧ w'.cell? ⟨10, 1, none⟩ = some (.int .u32 298) ∧ w'.cell? ⟨10, 2, none⟩ = some (.int .u32 0) ∧ w'.cell? ⟨10, 3, none⟩ = some (.bool true) ∧ w'.cell? ⟨10, 4, none⟩ = some (.int .u8 4) ∧ w'.cell? ⟨e0, 0, none⟩ = some (.int .u32 r) ∧ w'.cell? ⟨e0, 1, none⟩ = some (.int .u32 v))) 24 ({ dst := none, op := Op.store 35 (Operand.tmp 43) (Operand.tmp 41), type := 0, pos := "message.go:192", after := #[{ on := 23, ground := Ground.data }, { on := 21, ground := Ground.data }, { on := 21, ground := Ground.chain }, { on := 0, ground := Ground.phase }, { on := 1, ground := Ground.phase }, { on := 2, ground := Ground.phase }, { on := 3, ground := Ground.phase }, { on := 4, ground := Ground.phase }, { on := 5, ground := Ground.phase }, { on := 6, ground := Ground.phase }, { on := 7, ground := Ground.phase }, { on := 8, ground := Ground.phase }, { on := 9, ground := Ground.phase }, { on := 10, ground := Ground.phase }, { on := 11, ground := Ground.phase }, { on := 12, ground := Ground.phase }, { on := 13, ground := Ground.phase }, { on := 14, ground := Ground.phase }, { on := 15, ground := Ground.phase }, { on := 16, ground := Ground.phase }, { on := 17, ground := Ground.phase }, { on := 18, ground := Ground.phase }, { on := 19, ground := Ground.phase }, { on := 20, ground := Ground.phase }, { on := 21, ground := Ground.phase }], guard := none }) (by kernel_rfl) rfl (by kernel_rfl) ?hS (fun hHeld => ?_)
  case hS => exact HS.out _ (gweak (gdrew _ _) _)
  simp only [List.setIfInBounds_toArray, List.set_cons_zero, List.set_cons_succ, idle]
  refine wpAnyH_take (i := 0) (oi := ({ dst := some 20, op := Op.move (Operand.tmp 0), type := 30, pos := "message.go:192", after := #[], guard := none } : Oper)) (v := ?v0) rfl (by kernel_rfl) (by kernel_rfl) (by kernel_rfl) (fun _ _ _ h => h) (Or.inl ⟨by rfl, ?hy0⟩) (by assumption) ?rest0
  case hy0 => (intro w hSw; (try dsimp only at hSw); go_simp; try with_reducible rfl)
  (try simp only [Act.put, List.setIfInBounds_toArray, List.set_cons_zero, List.set_cons_succ])
  refine wpAnyH_take (i := 1) (oi := ({ dst := some 21, op := Op.move (Operand.tmp 0), type := 30, pos := "message.go:192", after := #[], guard := none } : Oper)) (v := ?v1) rfl (by kernel_rfl) (by kernel_rfl) (by kernel_rfl) (fun _ _ _ h => h) (Or.inl ⟨by rfl, ?hy1⟩) (by assumption) ?rest1
  case hy1 => (intro w hSw; (try dsimp only at hSw); go_simp; try with_reducible rfl)
  (try simp only [Act.put, List.setIfInBounds_toArray, List.set_cons_zero, List.set_cons_succ])
  refine wpAnyH_take (i := 2) (oi := ({ dst := some 22, op := Op.nilCheck (Operand.tmp 21), type := 0, pos := "message.go:192", after := #[{ on := 1, ground := Ground.data }], guard := none } : Oper)) (v := ?v2) rfl (by kernel_rfl) (by kernel_rfl) (by kernel_rfl) (fun _ _ _ h => h) (Or.inl ⟨by rfl, ?hy2⟩) (by assumption) ?rest2
  case hy2 => (intro w hSw; (try dsimp only at hSw); go_simp; try with_reducible rfl)
  (try simp only [Act.put, List.setIfInBounds_toArray, List.set_cons_zero, List.set_cons_succ])
  refine wpAnyH_take (i := 3) (oi := ({ dst := some 23, op := Op.fieldAddr 37 (Operand.tmp 22) 5, type := 0, pos := "message.go:192", after := #[{ on := 2, ground := Ground.data }], guard := none } : Oper)) (v := ?v3) rfl (by kernel_rfl) (by kernel_rfl) (by kernel_rfl) (fun _ _ _ h => h) (Or.inl ⟨by rfl, ?hy3⟩) (by assumption) ?rest3
  case hy3 => (intro w hSw; (try dsimp only at hSw); go_simp; try with_reducible rfl)
  (try simp only [Act.put, List.setIfInBounds_toArray, List.set_cons_zero, List.set_cons_succ])
  refine wpAnyH_take (i := 4) (oi := ({ dst := some 24, op := Op.load 35 (Operand.tmp 23), type := 35, pos := "message.go:192", after := #[{ on := 3, ground := Ground.data }], guard := none } : Oper)) (v := ?v4) rfl (by kernel_rfl) (by kernel_rfl) (by kernel_rfl) (fun _ _ _ h => h) (Or.inl ⟨by rfl, ?hy4⟩) (by assumption) ?rest4
  case hy4 => (intro w hSw; (try dsimp only at hSw); go_simp; try with_reducible rfl)
  (try simp only [Act.put, List.setIfInBounds_toArray, List.set_cons_zero, List.set_cons_succ])
  refine wpAnyH_take (i := 5) (oi := ({ dst := some 25, op := Op.load 122 (Operand.global 9), type := 122, pos := "message.go:192", after := #[], guard := none } : Oper)) (v := ?v5) rfl (by kernel_rfl) (by kernel_rfl) (by kernel_rfl) (fun _ _ _ h => h) (Or.inl ⟨by rfl, ?hy5⟩) (by assumption) ?rest5
  case hy5 => (intro w hSw; (try dsimp only at hSw); go_simp; try with_reducible rfl)
  (try simp only [Act.put, List.setIfInBounds_toArray, List.set_cons_zero, List.set_cons_succ])
  refine wpAnyH_take (i := 6) (oi := ({ dst := some 26, op := Op.load 122 (Operand.global 2), type := 122, pos := "message.go:192", after := #[], guard := none } : Oper)) (v := ?v6) rfl (by kernel_rfl) (by kernel_rfl) (by kernel_rfl) (fun _ _ _ h => h) (Or.inl ⟨by rfl, ?hy6⟩) (by assumption) ?rest6
  case hy6 => (intro w hSw; (try dsimp only at hSw); go_simp; try with_reducible rfl)
  (try simp only [Act.put, List.setIfInBounds_toArray, List.set_cons_zero, List.set_cons_succ])
  refine wpAnyH_take (i := 7) (oi := ({ dst := some 27, op := Op.move (Operand.tmp 4), type := 48, pos := "message.go:192", after := #[], guard := none } : Oper)) (v := ?v7) rfl (by kernel_rfl) (by kernel_rfl) (by kernel_rfl) (fun _ _ _ h => h) (Or.inl ⟨by rfl, ?hy7⟩) (by assumption) ?rest7
  case hy7 => (intro w hSw; (try dsimp only at hSw); go_simp; try with_reducible rfl)
  (try simp only [Act.put, List.setIfInBounds_toArray, List.set_cons_zero, List.set_cons_succ])
  refine wpAnyH_take (i := 8) (oi := ({ dst := some 28, op := Op.nilCheck (Operand.tmp 27), type := 0, pos := "message.go:192", after := #[{ on := 7, ground := Ground.data }], guard := none } : Oper)) (v := ?v8) rfl (by kernel_rfl) (by kernel_rfl) (by kernel_rfl) (fun _ _ _ h => h) (Or.inl ⟨by rfl, ?hy8⟩) (by assumption) ?rest8
  case hy8 => (intro w hSw; (try dsimp only at hSw); go_simp; try with_reducible rfl)
  (try simp only [Act.put, List.setIfInBounds_toArray, List.set_cons_zero, List.set_cons_succ])
  refine wpAnyH_take (i := 9) (oi := ({ dst := some 29, op := Op.fieldAddr 51 (Operand.tmp 28) 1, type := 0, pos := "message.go:192", after := #[{ on := 8, ground := Ground.data }], guard := none } : Oper)) (v := ?v9) rfl (by kernel_rfl) (by kernel_rfl) (by kernel_rfl) (fun _ _ _ h => h) (Or.inl ⟨by rfl, ?hy9⟩) (by assumption) ?rest9
  case hy9 => (intro w hSw; (try dsimp only at hSw); go_simp; try with_reducible rfl)
  (try simp only [Act.put, List.setIfInBounds_toArray, List.set_cons_zero, List.set_cons_succ])
  refine wpAnyH_take (i := 10) (oi := ({ dst := some 30, op := Op.load 22 (Operand.tmp 29), type := 22, pos := "message.go:192", after := #[{ on := 9, ground := Ground.data }], guard := none } : Oper)) (v := ?v10) rfl (by kernel_rfl) (by kernel_rfl) (by kernel_rfl) (fun _ _ _ h => h) (Or.inl ⟨by rfl, ?hy10⟩) (by assumption) ?rest10
  case hy10 => (intro w hSw; (try dsimp only at hSw); go_simp; try with_reducible rfl)
  (try simp only [Act.put, List.setIfInBounds_toArray, List.set_cons_zero, List.set_cons_succ])
  refine wpAnyH_take (i := 12) (oi := ({ dst := some 32, op := Op.load 122 (Operand.global 10), type := 122, pos := "message.go:192", after := #[], guard := none } : Oper)) (v := ?v12) rfl (by kernel_rfl) (by kernel_rfl) (by kernel_rfl) (fun _ _ _ h => h) (Or.inl ⟨by rfl, ?hy12⟩) (by assumption) ?rest12
  case hy12 => (intro w hSw; (try dsimp only at hSw); go_simp; try with_reducible rfl)
  (try simp only [Act.put, List.setIfInBounds_toArray, List.set_cons_zero, List.set_cons_succ])
  refine wpAnyH_take (i := 13) (oi := ({ dst := some 33, op := Op.move (Operand.tmp 4), type := 48, pos := "message.go:192", after := #[], guard := none } : Oper)) (v := ?v13) rfl (by kernel_rfl) (by kernel_rfl) (by kernel_rfl) (fun _ _ _ h => h) (Or.inl ⟨by rfl, ?hy13⟩) (by assumption) ?rest13
  case hy13 => (intro w hSw; (try dsimp only at hSw); go_simp; try with_reducible rfl)
  (try simp only [Act.put, List.setIfInBounds_toArray, List.set_cons_zero, List.set_cons_succ])
  refine wpAnyH_take (i := 14) (oi := ({ dst := some 34, op := Op.nilCheck (Operand.tmp 33), type := 0, pos := "message.go:192", after := #[{ on := 13, ground := Ground.data }], guard := none } : Oper)) (v := ?v14) rfl (by kernel_rfl) (by kernel_rfl) (by kernel_rfl) (fun _ _ _ h => h) (Or.inl ⟨by rfl, ?hy14⟩) (by assumption) ?rest14
  case hy14 => (intro w hSw; (try dsimp only at hSw); go_simp; try with_reducible rfl)
  (try simp only [Act.put, List.setIfInBounds_toArray, List.set_cons_zero, List.set_cons_succ])
  refine wpAnyH_take (i := 15) (oi := ({ dst := some 35, op := Op.fieldAddr 51 (Operand.tmp 34) 0, type := 0, pos := "message.go:192", after := #[{ on := 14, ground := Ground.data }], guard := none } : Oper)) (v := ?v15) rfl (by kernel_rfl) (by kernel_rfl) (by kernel_rfl) (fun _ _ _ h => h) (Or.inl ⟨by rfl, ?hy15⟩) (by assumption) ?rest15
  case hy15 => (intro w hSw; (try dsimp only at hSw); go_simp; try with_reducible rfl)
  (try simp only [Act.put, List.setIfInBounds_toArray, List.set_cons_zero, List.set_cons_succ])
  refine wpAnyH_take (i := 16) (oi := ({ dst := some 36, op := Op.load 22 (Operand.tmp 35), type := 22, pos := "message.go:192", after := #[{ on := 15, ground := Ground.data }], guard := none } : Oper)) (v := ?v16) rfl (by kernel_rfl) (by kernel_rfl) (by kernel_rfl) (fun _ _ _ h => h) (Or.inl ⟨by rfl, ?hy16⟩) (by assumption) ?rest16
  case hy16 => (intro w hSw; (try dsimp only at hSw); go_simp; try with_reducible rfl)
  (try simp only [Act.put, List.setIfInBounds_toArray, List.set_cons_zero, List.set_cons_succ])
  refine wpAnyH_ready (rs := [11]) (by kernel_rfl) (by simp) ?_
  refine AllReadyH.cons (o := ({ dst := some 31, op := Op.call { callee := Callee.value (Operand.func 17), args := #[Operand.tmp 26, Operand.tmp 30], argTypes := #[122, 22] }, type := 41, pos := "message.go:193", after := #[{ on := 6, ground := Ground.data }, { on := 10, ground := Ground.data }], guard := none } : Oper)) rfl (fun K hK => ?_) AllReadyH.nil
  go_simp
  refine (attrU32 (nm 2) 266 0 4 true v hv0 hv1 _).mono ?_
  rintro e w1 ⟨⟨da1, dc1, rfl, hu1⟩, hg1⟩
  have G1 : Hid (w.grownBy w1 none) := gtrans (gdrew _ _) hg1
  have U1 : Hid (U8s w1 da1 4 (be32 v)) := hu1
  clear hg1 hu1
  refine hK.out _ _ ?hS11 (fun hHeld2 => ?_)
  case hS11 => exact HS.out _ (gweak G1.out _)
  clear hK K hHeld
  have hHeld := hHeld2
  clear hHeld2
  (try simp only [Act.put, List.setIfInBounds_toArray, List.set_cons_zero, List.set_cons_succ])
  refine wpAnyH_ready (rs := [17]) (by kernel_rfl) (by simp) ?_
  refine AllReadyH.cons (o := ({ dst := some 37, op := Op.call { callee := Callee.value (Operand.func 17), args := #[Operand.tmp 32, Operand.tmp 36], argTypes := #[122, 22] }, type := 41, pos := "message.go:194", after := #[{ on := 12, ground := Ground.data }, { on := 16, ground := Ground.data }, { on := 11, ground := Ground.chain }], guard := none } : Oper)) rfl (fun K hK => ?_) AllReadyH.nil
  go_simp
  refine (attrU32 (nm 10) 298 0 4 true r hr0 hr1 _).mono ?_
  rintro e w2 ⟨⟨da2, dc2, rfl, hu2⟩, hg2⟩
  have G2 : Hid (w.grownBy w2 none) := gtrans G1.out hg2
  have U2 : Hid (U8s w2 da2 4 (be32 r)) := hu2
  have U1 : Hid (U8s w2 da1 4 (be32 v)) := U1.out.grow hg2
  clear hg2 hu2
  refine hK.out _ _ ?hS17 (fun hHeld2 => ?_)
  case hS17 => exact HS.out _ (gweak G2.out _)
  clear hK K hHeld
  have hHeld := hHeld2
  clear hHeld2
  (try simp only [Act.put, List.setIfInBounds_toArray, List.set_cons_zero, List.set_cons_succ])
  refine wpAnyH_ready (rs := [18]) (by kernel_rfl) (by simp) ?_
  refine AllReadyH.cons (o := ({ dst := some 38, op := Op.buildSlice 35 2 #[(0, Operand.tmp 31), (1, Operand.tmp 37)], type := 35, pos := "message.go:192", after := #[{ on := 11, ground := Ground.data }, { on := 17, ground := Ground.data }], guard := none } : Oper)) rfl (fun K hK => ?_) AllReadyH.nil
  go_simp
  obtain ⟨w3, hw3⟩ : ∃ w3, w3 = w2.alloc (.cells #[.int .u32 266, .int .u8 (aflags 0 true), .int .u32 0, .slice da1 4 dc1, .int .u32 298, .int .u8 (aflags 0 true), .int .u32 0, .slice da2 4 dc2] 41) := ⟨_, rfl⟩
  rw [← hw3]
  have G3 : Hid (w.grownBy w3 none) := by show w.grownBy w3 none; rw [hw3]; exact gtrans G2.out (World.grownBy_alloc _ _ _)
  have HAT : Hid (∀ i (h : i < [(⟨266, aflags 0 true, 0, da1, 4, dc1, be32 v⟩ : Avp), (⟨298, aflags 0 true, 0, da2, 4, dc2, be32 r⟩ : Avp)].length), ([(⟨266, aflags 0 true, 0, da1, 4, dc1, be32 v⟩ : Avp), (⟨298, aflags 0 true, 0, da2, 4, dc2, be32 r⟩ : Avp)][i]).At w3 w2.heap.size (0 + i * 4) ∧ ([(⟨266, aflags 0 true, 0, da1, 4, dc1, be32 v⟩ : Avp), (⟨298, aflags 0 true, 0, da2, 4, dc2, be32 r⟩ : Avp)][i]).Fits w3) := by
    show ∀ i (h : i < [(⟨266, aflags 0 true, 0, da1, 4, dc1, be32 v⟩ : Avp), (⟨298, aflags 0 true, 0, da2, 4, dc2, be32 r⟩ : Avp)].length), ([(⟨266, aflags 0 true, 0, da1, 4, dc1, be32 v⟩ : Avp), (⟨298, aflags 0 true, 0, da2, 4, dc2, be32 r⟩ : Avp)][i]).At w3 w2.heap.size (0 + i * 4) ∧ ([(⟨266, aflags 0 true, 0, da1, 4, dc1, be32 v⟩ : Avp), (⟨298, aflags 0 true, 0, da2, 4, dc2, be32 r⟩ : Avp)][i]).Fits w3
    have hb : w3.heap[w2.heap.size]? = some (.cells #[.int .u32 266, .int .u8 (aflags 0 true), .int .u32 0, .slice da1 4 dc1, .int .u32 298, .int .u8 (aflags 0 true), .int .u32 0, .slice da2 4 dc2] 41 (0, 0)) := by rw [hw3]; exact heap_alloc_new _ _
    have u1 : U8s w3 da1 4 (be32 v) := by rw [hw3]; exact U1.out.grow (World.grownBy_alloc _ _ _)
    have u2 : U8s w3 da2 4 (be32 r) := by rw [hw3]; exact U2.out.grow (World.grownBy_alloc _ _ _)
    intro i h
    match i, h with
    | 0, _ => exact ⟨avp_at hb rfl rfl rfl rfl, avp_fits true u1 hv0 hv1 (by decide) (by decide)⟩
    | 1, _ => exact ⟨avp_at hb rfl rfl rfl rfl, avp_fits true u2 hr0 hr1 (by decide) (by decide)⟩
    | n + 2, h => (simp only [List.length_cons, List.length_nil] at h; omega)
  clear hw3
  refine hK.out _ _ ?hS18 (fun hHeld2 => ?_)
  case hS18 => exact HS.out _ (gweak G3.out _)
  clear hK K hHeld
  have hHeld := hHeld2
  clear hHeld2
  (try simp only [Act.put, List.setIfInBounds_toArray, List.set_cons_zero, List.set_cons_succ])
  refine wpAnyH_ready (rs := [19]) (by kernel_rfl) (by simp) ?_
  refine AllReadyH.cons (o := ({ dst := some 39, op := Op.call { callee := Callee.value (Operand.func 25), args := #[Operand.tmp 25, Operand.tmp 38], argTypes := #[122, 35] }, type := 41, pos := "message.go:192", after := #[{ on := 5, ground := Ground.data }, { on := 18, ground := Ground.data }, { on := 17, ground := Ground.chain }], guard := none } : Oper)) rfl (fun K hK => ?_) AllReadyH.nil
  go_simp
  refine (Group_any (nm 9) 297 0 9 true w2.heap.size 0 2 2 [(⟨266, aflags 0 true, 0, da1, 4, dc1, be32 v⟩ : Avp), (⟨298, aflags 0 true, 0, da2, 4, dc2, be32 r⟩ : Avp)] _ rfl (by decide) (by intro a ha; simp only [List.mem_cons, List.not_mem_nil, or_false] at ha; rcases ha with rfl | rfl <;> (show (4 : Nat) ≤ 1048576) <;> omega) HAT.out).mono ?_
  rintro e w4 ⟨g, n, hn, rfl, _, hb4⟩
  have G4 : Hid (w.grownBy w4 none) := gtrans G3.out (gofBelow hb4)
  clear hb4 HAT hn
  refine hK.out _ _ ?hS19 (fun hHeld2 => ?_)
  case hS19 => exact HS.out _ (gweak G4.out _)
  clear hK K hHeld
  have hHeld := hHeld2
  clear hHeld2
  (try simp only [Act.put, List.setIfInBounds_toArray, List.set_cons_zero, List.set_cons_succ])
  refine wpAnyH_ready (rs := [20]) (by kernel_rfl) (by simp) ?_
  refine AllReadyH.cons (o := ({ dst := some 40, op := Op.buildSlice 35 1 #[(0, Operand.tmp 39)], type := 35, pos := "message.go:192", after := #[{ on := 19, ground := Ground.data }], guard := none } : Oper)) rfl (fun K hK => ?_) AllReadyH.nil
  go_simp
  obtain ⟨wA, hwA⟩ : ∃ wA, wA = (w4.alloc (.cells (flat [(⟨297, (aflags 0 true), 0, (some ⟨g, 0, none⟩), n, n⟩ : Av)]).toArray 41)) := ⟨_, rfl⟩
  have gA : Hid (w.grownBy wA none) := by show w.grownBy wA none; rw [hwA]; exact gtrans G4.out (World.grownBy_alloc _ _ _)
  have HN : Hid (∀ j u, (flat [(⟨297, (aflags 0 true), 0, (some ⟨g, 0, none⟩), n, n⟩ : Av)])[j]? = some u → wA.cell? ((⟨w4.heap.size, 0, none⟩ : Addr).add j) = some u) := by
    show ∀ j u, (flat [(⟨297, (aflags 0 true), 0, (some ⟨g, 0, none⟩), n, n⟩ : Av)])[j]? = some u → wA.cell? ((⟨w4.heap.size, 0, none⟩ : Addr).add j) = some u
    rw [hwA]
    exact World.news_of_block (heap_alloc_new _ _)
  have eA : (w4.alloc (.cells #[.int .u32 297, .int .u8 (aflags 0 true), .int .u32 0, .slice (some ⟨g, 0, none⟩) n n] 41)) = wA := hwA.symm
  rw [eA]
  clear hwA eA
  refine hK.out _ _ ?hS20 (fun hHeld2 => ?_)
  case hS20 => exact HS.out _ (gweak gA.out _)
  clear hK K hHeld
  have hHeld := hHeld2
  clear hHeld2
  (try simp only [Act.put, List.setIfInBounds_toArray, List.set_cons_zero, List.set_cons_succ])
  refine wpAnyH_ready (rs := [21]) (by kernel_rfl) (by simp) ?_
  refine AllReadyH.cons (o := ({ dst := some 41, op := Op.call { callee := Callee.builtin Builtin.append, args := #[Operand.tmp 24, Operand.tmp 40], argTypes := #[35, 35] }, type := 35, pos := "message.go:192", after := #[{ on := 4, ground := Ground.data }, { on := 20, ground := Ground.data }, { on := 19, ground := Ground.chain }], guard := none } : Oper)) rfl (fun K hK => ?_) AllReadyH.nil
  have HX : Hid (avs.length + 1 ≤ maxLen ∧ B ≤ wA.heap.size ∧ (avs.length + 1) * 40 ≤ 140737488355328) := ⟨by have := HNN.out; unfold maxLen; omega, Nat.le_trans MS.out.size gA.out.size, by have := HNN.out; omega⟩
  refine step_append_lies _ rfl (.tmp 24) (.tmp 40) 35 rfl B 41 i0 (.agg #[.int .u32 0, .int .u8 0, .int .u32 0, .slice none 0 0]) 4 40 Ybad.underlying35 hi hz0 hz1 hz2 rfl (by decide) sv avs.length (flat avs) (by simp [Act.eval, Act.put]) (MS.out.grow gA.out).row ⟨w4.heap.size, 0, none⟩ 1 1 (flat [(⟨297, (aflags 0 true), 0, (some ⟨g, 0, none⟩), n, n⟩ : Av)]) (by simp [Act.eval, Act.put]) rfl HN.out (flat_one _) (by decide) HX.out.1 HX.out.2.2 HX.out.2.1 _ rfl ?_
  intro gz capz wz hown4 hg4 _ _
  have HO4 : Hid (wz.ownsRow B 41 4 (.slice (some ⟨gz, 0, none⟩) (avs.length + 1) capz) (avs.length + 1) (flat avs ++ flat [(⟨297, (aflags 0 true), 0, (some ⟨g, 0, none⟩), n, n⟩ : Av)])) := hown4
  have HG4 : Hid (wA.grownBy wz sv.ownBlock) := hg4
  have P4 : Hid (wz.heap[p]? = _) := gblock hg4 (MS.out.grow gA.out).box (own_ne41 (MS.out.grow gA.out).row (MS.out.grow gA.out).box (by decide))
  have q4 : wz.cell? ⟨p, 5, none⟩ = some sv := cellOf P4.out
  have z4 : wz.frozen? ⟨p, 5, none⟩ = false := frozenOf P4.out
  clear hown4 hg4
  refine hK.out _ _ ?hS21 (fun hHeld2 => ?_)
  case hS21 => exact HS.out _ (gtrans (gweak gA.out _) HG4.out)
  clear hK K hHeld
  have hHeld := hHeld2
  clear hHeld2
  (try simp only [Act.put, List.setIfInBounds_toArray, List.set_cons_zero, List.set_cons_succ])
  refine wpAnyH_take (i := 22) (oi := ({ dst := some 42, op := Op.nilCheck (Operand.tmp 20), type := 0, pos := "message.go:192", after := #[{ on := 0, ground := Ground.data }, { on := 0, ground := Ground.phase }, { on := 1, ground := Ground.phase }, { on := 2, ground := Ground.phase }, { on := 3, ground := Ground.phase }, { on := 4, ground := Ground.phase }, { on := 5, ground := Ground.phase }, { on := 6, ground := Ground.phase }, { on := 7, ground := Ground.phase }, { on := 8, ground := Ground.phase }, { on := 9, ground := Ground.phase }, { on := 10, ground := Ground.phase }, { on := 11, ground := Ground.phase }, { on := 12, ground := Ground.phase }, { on := 13, ground := Ground.phase }, { on := 14, ground := Ground.phase }, { on := 15, ground := Ground.phase }, { on := 16, ground := Ground.phase }, { on := 17, ground := Ground.phase }, { on := 18, ground := Ground.phase }, { on := 19, ground := Ground.phase }, { on := 20, ground := Ground.phase }, { on := 21, ground := Ground.phase }], guard := none } : Oper)) (v := ?v22) rfl (by kernel_rfl) (by kernel_rfl) (by kernel_rfl) (fun _ _ _ h => h) (Or.inl ⟨by rfl, ?hy22⟩) (by assumption) ?rest22
  case hy22 => (intro w hSw; (try dsimp only at hSw); go_simp; try with_reducible rfl)
  (try simp only [Act.put, List.setIfInBounds_toArray, List.set_cons_zero, List.set_cons_succ])
  refine wpAnyH_take (i := 23) (oi := ({ dst := some 43, op := Op.fieldAddr 37 (Operand.tmp 42) 5, type := 0, pos := "message.go:192", after := #[{ on := 22, ground := Ground.data }, { on := 0, ground := Ground.phase }, { on := 1, ground := Ground.phase }, { on := 2, ground := Ground.phase }, { on := 3, ground := Ground.phase }, { on := 4, ground := Ground.phase }, { on := 5, ground := Ground.phase }, { on := 6, ground := Ground.phase }, { on := 7, ground := Ground.phase }, { on := 8, ground := Ground.phase }, { on := 9, ground := Ground.phase }, { on := 10, ground := Ground.phase }, { on := 11, ground := Ground.phase }, { on := 12, ground := Ground.phase }, { on := 13, ground := Ground.phase }, { on := 14, ground := Ground.phase }, { on := 15, ground := Ground.phase }, { on := 16, ground := Ground.phase }, { on := 17, ground := Ground.phase }, { on := 18, ground := Ground.phase }, { on := 19, ground := Ground.phase }, { on := 20, ground := Ground.phase }, { on := 21, ground := Ground.phase }], guard := none } : Oper)) (v := ?v23) rfl (by kernel_rfl) (by kernel_rfl) (by kernel_rfl) (fun _ _ _ h => h) (Or.inl ⟨by rfl, ?hy23⟩) (by assumption) ?rest23
  case hy23 => (intro w hSw; (try dsimp only at hSw); go_simp; try with_reducible rfl)
  (try simp only [Act.put, List.setIfInBounds_toArray, List.set_cons_zero, List.set_cons_succ])
  refine wpAnyH_take (i := 24) (oi := ({ dst := none, op := Op.move (Operand.const (Value.bool true)), type := 0, pos := "message.go:192", after := #[{ on := 23, ground := Ground.data }, { on := 21, ground := Ground.data }, { on := 21, ground := Ground.chain }, { on := 0, ground := Ground.phase }, { on := 1, ground := Ground.phase }, { on := 2, ground := Ground.phase }, { on := 3, ground := Ground.phase }, { on := 4, ground := Ground.phase }, { on := 5, ground := Ground.phase }, { on := 6, ground := Ground.phase }, { on := 7, ground := Ground.phase }, { on := 8, ground := Ground.phase }, { on := 9, ground := Ground.phase }, { on := 10, ground := Ground.phase }, { on := 11, ground := Ground.phase }, { on := 12, ground := Ground.phase }, { on := 13, ground := Ground.phase }, { on := 14, ground := Ground.phase }, { on := 15, ground := Ground.phase }, { on := 16, ground := Ground.phase }, { on := 17, ground := Ground.phase }, { on := 18, ground := Ground.phase }, { on := 19, ground := Ground.phase }, { on := 20, ground := Ground.phase }, { on := 21, ground := Ground.phase }], guard := none } : Oper)) (v := ?v24) rfl (by kernel_rfl) (by kernel_rfl) (by kernel_rfl) (fun _ _ _ h => h) (Or.inl ⟨by rfl, ?hy24⟩) (by assumption) ?rest24
  case hy24 => (intro w hSw; (try dsimp only at hSw); go_simp; try with_reducible rfl)
  (try simp only [Act.put, List.setIfInBounds_toArray, List.set_cons_zero, List.set_cons_succ])
  refine wpAnyH_done (by kernel_rfl) ?_ _
  simp only [afterLast]
  refine wpOp_step (i := 24) (o := ({ dst := none, op := Op.store 35 (Operand.tmp 43) (Operand.tmp 41), type := 0, pos := "message.go:192", after := #[{ on := 23, ground := Ground.data }, { on := 21, ground := Ground.data }, { on := 21, ground := Ground.chain }, { on := 0, ground := Ground.phase }, { on := 1, ground := Ground.phase }, { on := 2, ground := Ground.phase }, { on := 3, ground := Ground.phase }, { on := 4, ground := Ground.phase }, { on := 5, ground := Ground.phase }, { on := 6, ground := Ground.phase }, { on := 7, ground := Ground.phase }, { on := 8, ground := Ground.phase }, { on := 9, ground := Ground.phase }, { on := 10, ground := Ground.phase }, { on := 11, ground := Ground.phase }, { on := 12, ground := Ground.phase }, { on := 13, ground := Ground.phase }, { on := 14, ground := Ground.phase }, { on := 15, ground := Ground.phase }, { on := 16, ground := Ground.phase }, { on := 17, ground := Ground.phase }, { on := 18, ground := Ground.phase }, { on := 19, ground := Ground.phase }, { on := 20, ground := Ground.phase }, { on := 21, ground := Ground.phase }], guard := none } : Oper)) rfl (fun K hK => ?_)
  go_simp
  exact hK _ _ (NoPanic.normal (HQ.out _ _ _ _ _ _ _ _ _ _ _ _ _ _ _ _ _ _ _ _ _ _ _ _ _ _ rfl (app_post MS.out gA.out HO4.out HG4.out)))
end Go.Proofs.YbulkaptmDoor
