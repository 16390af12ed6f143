/-
  Fail: the Failed-AVP.
-/
import Derived.Test.YbulkaptmDoorSrv
namespace Go.Proofs.YbulkaptmDoor
open Go.RowKit
set_option linter.unusedVariables false
set_option linter.unusedSimpArgs false
set_option maxRecDepth 100000

set_option maxHeartbeats 3200000 in
theorem fail_r9 {Q : Exit → Act → World → Prop} {ds : List Deferred} {t1 t2 t3 t5 t6 t7 t8 t9 t10 t11 t12 t13 t14 t15 t16 t17 t18 t19 t20 t21 t22 t23 t24 t25 t26 t27 t28 t29 t30 t31 t32 t33 t34 t35 t36 t37 t38 t39 t40 t41 t42 t43 t44 t45 t46 t47 t48 t49 t50 t51 t52 t53 t54 t55 t56 t57 t58 t59 t60 t61 t62 t63 t64 t65 t66 t67 t68 t69 t70 t71 t72 t73 t74 t75 t76 t77 t78 t79 t80 t81 t82 t83 t84 t85 t86 t87 t88 t89 t90 t91 t92 t93 t94 : Value} {w : World} {B p : Nat} {fl cmd app hop ete : Int} {sv : Value} {avs : List Av} {nm : Nat → ByteArray} {z : Addr} {e0 f0 : Nat} {r v fc : Int}
    (hms : MsgSt w B p fl cmd app hop ete sv avs) (hG : Globs w nm z) (hB : 17 ≤ B) (hn : avs.length ≤ 100000) (he : w.heap[e0]? = some (.cells #[.int .u32 r, .int .u32 v, .pointer (some ⟨f0, 0, none⟩)] 51 (0, 0))) (hfb : w.heap[f0]? = some (.cells #[.int .u32 fc, .int .u8 0, .int .u32 0, .slice none 0 0] 41 (0, 0))) (hfB : f0 < B) (hf0 : 0 ≤ fc) (hf1 : fc < 4294967296)
    (hQ : ∀ (s77 s78 s79 s80 s81 s82 s83 s84 s85 s86 s87 s88 s89 s90 s91 s92 s93 s94 : Value) (w' : World) (a1 : Av), a1.code = 279 → AppPost w B p fl cmd app hop ete avs [a1] w' → Q .normal { tmps := #[(.pointer (some ⟨p, 0, none⟩)), t1, t2, t3, (.pointer (some ⟨e0, 0, none⟩)), t5, t6, t7, t8, t9, t10, t11, t12, t13, t14, t15, t16, t17, t18, t19, t20, t21, t22, t23, t24, t25, t26, t27, t28, t29, t30, t31, t32, t33, t34, t35, t36, t37, t38, t39, t40, t41, t42, t43, t44, t45, t46, t47, t48, t49, t50, t51, t52, t53, t54, t55, t56, t57, t58, t59, t60, t61, t62, t63, t64, t65, t66, t67, t68, t69, t70, t71, t72, t73, t74, t75, t76, s77, s78, s79, s80, s81, s82, s83, s84, s85, s86, s87, s88, s89, s90, s91, s92, s93, s94], defers := ds } w') :
    (Code.region 9 #[{ dst := some 77, op := Op.move (Operand.tmp 0), type := 30, pos := "message.go:203", after := #[], guard := none }, { dst := some 78, op := Op.move (Operand.tmp 0), type := 30, pos := "message.go:203", after := #[], guard := none }, { dst := some 79, op := Op.nilCheck (Operand.tmp 78), type := 0, pos := "message.go:203", after := #[{ on := 1, ground := Ground.data }], guard := none }, { dst := some 80, op := Op.fieldAddr 37 (Operand.tmp 79) 5, type := 0, pos := "message.go:203", after := #[{ on := 2, ground := Ground.data }], guard := none }, { dst := some 81, op := Op.load 35 (Operand.tmp 80), type := 35, pos := "message.go:203", after := #[{ on := 3, ground := Ground.data }], guard := none }, { dst := some 82, op := Op.load 122 (Operand.global 11), type := 122, pos := "message.go:203", after := #[], guard := none }, { dst := some 83, op := Op.move (Operand.tmp 4), type := 48, pos := "message.go:203", after := #[], guard := none }, { dst := some 84, op := Op.nilCheck (Operand.tmp 83), type := 0, pos := "message.go:203", after := #[{ on := 6, ground := Ground.data }], guard := none }, { dst := some 85, op := Op.fieldAddr 51 (Operand.tmp 84) 2, type := 0, pos := "message.go:203", after := #[{ on := 7, ground := Ground.data }], guard := none }, { dst := some 86, op := Op.load 49 (Operand.tmp 85), type := 49, pos := "message.go:203", after := #[{ on := 8, ground := Ground.data }], guard := none }, { dst := some 87, op := Op.nilCheck (Operand.tmp 86), type := 0, pos := "message.go:203", after := #[{ on := 9, ground := Ground.data }], guard := none }, { dst := some 88, op := Op.load 41 (Operand.tmp 87), type := 41, pos := "message.go:203", after := #[{ on := 10, ground := Ground.data }], guard := none }, { dst := some 89, op := Op.buildSlice 35 1 #[(0, Operand.tmp 88)], type := 35, pos := "message.go:203", after := #[{ on := 11, ground := Ground.data }], guard := none }, { dst := some 90, op := Op.call { callee := Callee.value (Operand.func 25), args := #[Operand.tmp 82, Operand.tmp 89], argTypes := #[122, 35] }, type := 41, pos := "message.go:203", after := #[{ on := 5, ground := Ground.data }, { on := 12, ground := Ground.data }], guard := none }, { dst := some 91, op := Op.buildSlice 35 1 #[(0, Operand.tmp 90)], type := 35, pos := "message.go:203", after := #[{ on := 13, ground := Ground.data }], guard := none }, { dst := some 92, op := Op.call { callee := Callee.builtin Builtin.append, args := #[Operand.tmp 81, Operand.tmp 91], argTypes := #[35, 35] }, type := 35, pos := "message.go:203", after := #[{ on := 4, ground := Ground.data }, { on := 14, ground := Ground.data }, { on := 13, ground := Ground.chain }], guard := none }, { dst := some 93, op := Op.nilCheck (Operand.tmp 77), type := 0, pos := "message.go:203", after := #[{ on := 0, ground := Ground.data }, { on := 0, ground := Ground.phase }, { on := 1, ground := Ground.phase }, { on := 2, ground := Ground.phase }, { on := 3, ground := Ground.phase }, { on := 4, ground := Ground.phase }, { on := 5, ground := Ground.phase }, { on := 6, ground := Ground.phase }, { on := 7, ground := Ground.phase }, { on := 8, ground := Ground.phase }, { on := 9, ground := Ground.phase }, { on := 10, ground := Ground.phase }, { on := 11, ground := Ground.phase }, { on := 12, ground := Ground.phase }, { on := 13, ground := Ground.phase }, { on := 14, ground := Ground.phase }, { on := 15, ground := Ground.phase }], guard := none }, { dst := some 94, op := Op.fieldAddr 37 (Operand.tmp 93) 5, type := 0, pos := "message.go:203", after := #[{ on := 16, ground := Ground.data }, { on := 0, ground := Ground.phase }, { on := 1, ground := Ground.phase }, { on := 2, ground := Ground.phase }, { on := 3, ground := Ground.phase }, { on := 4, ground := Ground.phase }, { on := 5, ground := Ground.phase }, { on := 6, ground := Ground.phase }, { on := 7, ground := Ground.phase }, { on := 8, ground := Ground.phase }, { on := 9, ground := Ground.phase }, { on := 10, ground := Ground.phase }, { on := 11, ground := Ground.phase }, { on := 12, ground := Ground.phase }, { on := 13, ground := Ground.phase }, { on := 14, ground := Ground.phase }, { on := 15, ground := Ground.phase }], guard := none }, { dst := none, op := Op.store 35 (Operand.tmp 94) (Operand.tmp 92), type := 0, pos := "message.go:203", after := #[{ on := 17, ground := Ground.data }, { on := 15, ground := Ground.data }, { on := 15, ground := Ground.chain }, { on := 0, ground := Ground.phase }, { on := 1, ground := Ground.phase }, { on := 2, ground := Ground.phase }, { on := 3, ground := Ground.phase }, { on := 4, ground := Ground.phase }, { on := 5, ground := Ground.phase }, { on := 6, ground := Ground.phase }, { on := 7, ground := Ground.phase }, { on := 8, ground := Ground.phase }, { on := 9, ground := Ground.phase }, { on := 10, ground := Ground.phase }, { on := 11, ground := Ground.phase }, { on := 12, ground := Ground.phase }, { on := 13, ground := Ground.phase }, { on := 14, ground := Ground.phase }, { on := 15, ground := Ground.phase }], guard := none }] true).wp Ybad.prog Q { tmps := #[(.pointer (some ⟨p, 0, none⟩)), t1, t2, t3, (.pointer (some ⟨e0, 0, none⟩)), t5, t6, t7, t8, t9, t10, t11, t12, t13, t14, t15, t16, t17, t18, t19, t20, t21, t22, t23, t24, t25, t26, t27, t28, t29, t30, t31, t32, t33, t34, t35, t36, t37, t38, t39, t40, t41, t42, t43, t44, t45, t46, t47, t48, t49, t50, t51, t52, t53, t54, t55, t56, t57, t58, t59, t60, t61, t62, t63, t64, t65, t66, t67, t68, t69, t70, t71, t72, t73, t74, t75, t76, t77, t78, t79, t80, t81, t82, t83, t84, t85, t86, t87, t88, t89, t90, t91, t92, t93, t94], defers := ds } w := by
  obtain ⟨i0, hi, hz0, hz1, hz2⟩ := info_parts info41
  have MS : Hid (MsgSt w B p fl cmd app hop ete sv avs) := hms
  have GL : Hid (Globs w nm z) := hG
  have HNN : Hid (avs.length ≤ 100000) := hn
  have HE : Hid (w.heap[e0]? = some (.cells #[.int .u32 r, .int .u32 v, .pointer (some ⟨f0, 0, none⟩)] 51 (0, 0))) := he
  have HFB : Hid (w.heap[f0]? = some (.cells #[.int .u32 fc, .int .u8 0, .int .u32 0, .slice none 0 0] 41 (0, 0))) := hfb
  have HS : Hid (∀ w', w.grownBy w' sv.ownBlock → (fun w' => w'.cell? ⟨p, 5, none⟩ = some sv ∧ w'.cell? ⟨11, 0, none⟩ = some (.string (nm 11)) ∧ w'.cell? ⟨11, 1, none⟩ = some (.int .u32 279) ∧ w'.cell? ⟨11, 2, none⟩ = some (.int .u32 0) ∧ w'.cell? ⟨11, 3, none⟩ = some (.bool true) ∧ w'.cell? ⟨11, 4, none⟩ = some (.int .u8 9) ∧ w'.cell? ⟨e0, 2, none⟩ = some (.pointer (some ⟨f0, 0, none⟩)) ∧ w'.cell? ⟨f0, 0, none⟩ = some (.int .u32 fc) ∧ w'.cell? ⟨f0, 1, none⟩ = some (.int .u8 0) ∧ w'.cell? ⟨f0, 2, none⟩ = some (.int .u32 0) ∧ w'.cell? ⟨f0, 3, none⟩ = some (.slice none 0 0)) w') := by
    show ∀ w', w.grownBy w' sv.ownBlock → (fun w' => w'.cell? ⟨p, 5, none⟩ = some sv ∧ w'.cell? ⟨11, 0, none⟩ = some (.string (nm 11)) ∧ w'.cell? ⟨11, 1, none⟩ = some (.int .u32 279) ∧ w'.cell? ⟨11, 2, none⟩ = some (.int .u32 0) ∧ w'.cell? ⟨11, 3, none⟩ = some (.bool true) ∧ w'.cell? ⟨11, 4, none⟩ = some (.int .u8 9) ∧ w'.cell? ⟨e0, 2, none⟩ = some (.pointer (some ⟨f0, 0, none⟩)) ∧ w'.cell? ⟨f0, 0, none⟩ = some (.int .u32 fc) ∧ w'.cell? ⟨f0, 1, none⟩ = some (.int .u8 0) ∧ w'.cell? ⟨f0, 2, none⟩ = some (.int .u32 0) ∧ w'.cell? ⟨f0, 3, none⟩ = some (.slice none 0 0)) w'
    intro w' hg
    have g17 : Below 17 w w' := gbelow hg (Nat.le_trans hB MS.out.size) (fun k hk => Nat.le_trans hB (MS.out.row.lt _ hk).1)
    have gg := GL.out.below g17
    have hb := gblock hg HE.out (own_ne41 MS.out.row HE.out (by decide))
    have hf := gblock hg HFB.out (fun e => by have := (MS.out.row.lt _ e.symm).1; omega)
    exact ⟨cellOf (gblock hg MS.out.box (own_ne41 MS.out.row MS.out.box (by decide))), gg.g11.c0, gg.g11.c1, gg.g11.c2, gg.g11.c3, gg.g11.c4, cellOf hb, cellOf hf, cellOf hf, cellOf hf, cellOf hf⟩
  have HQ : Hid (∀ (s77 s78 s79 s80 s81 s82 s83 s84 s85 s86 s87 s88 s89 s90 s91 s92 s93 s94 : Value) (w' : World) (a1 : Av), a1.code = 279 → AppPost w B p fl cmd app hop ete avs [a1] w' → Q .normal { tmps := #[(.pointer (some ⟨p, 0, none⟩)), t1, t2, t3, (.pointer (some ⟨e0, 0, none⟩)), t5, t6, t7, t8, t9, t10, t11, t12, t13, t14, t15, t16, t17, t18, t19, t20, t21, t22, t23, t24, t25, t26, t27, t28, t29, t30, t31, t32, t33, t34, t35, t36, t37, t38, t39, t40, t41, t42, t43, t44, t45, t46, t47, t48, t49, t50, t51, t52, t53, t54, t55, t56, t57, t58, t59, t60, t61, t62, t63, t64, t65, t66, t67, t68, t69, t70, t71, t72, t73, t74, t75, t76, s77, s78, s79, s80, s81, s82, s83, s84, s85, s86, s87, s88, s89, s90, s91, s92, s93, s94], defers := ds } w') := hQ
  clear hms hG hQ hn
  clear he hfb
  refine wp_region_noPanic ?_
  refine wp_region_last (S := (fun w' => w'.cell? ⟨p, 5, none⟩ = some sv ∧ w'.cell? ⟨11, 0, none⟩ = some (.string (nm 11)) ∧ w'.cell? ⟨11, 1, none⟩ = some (.int .u32 279) ∧ w'.cell? ⟨11, 2, none⟩ = some (.int .u32 0) ∧ w'.cell? ⟨11, 3, none⟩ = some (.bool true) ∧ w'.cell? ⟨11, 4, none⟩ = some (.int .u8 9) ∧ w'.cell? ⟨e0, 2, none⟩ = some (.pointer (some ⟨f0, 0, none⟩)) ∧ w'.cell? ⟨f0, 0, none⟩ = some (.int .u32 fc) ∧ w'.cell? ⟨f0, 1, none⟩ = some (.int .u8 0) ∧ w'.cell? ⟨f0, 2, none⟩ = some (.int .u32 0) ∧ w'.cell? ⟨f0, 3, none⟩ = some (.slice none 0 0))) 18 ({ dst := none, op := Op.store 35 (Operand.tmp 94) (Operand.tmp 92), type := 0, pos := "message.go:203", after := #[{ on := 17, ground := Ground.data }, { on := 15, ground := Ground.data }, { on := 15, ground := Ground.chain }, { on := 0, ground := Ground.phase }, { on := 1, ground := Ground.phase }, { on := 2, ground := Ground.phase }, { on := 3, ground := Ground.phase }, { on := 4, ground := Ground.phase }, { on := 5, ground := Ground.phase }, { on := 6, ground := Ground.phase }, { on := 7, ground := Ground.phase }, { on := 8, ground := Ground.phase }, { on := 9, ground := Ground.phase }, { on := 10, ground := Ground.phase }, { on := 11, ground := Ground.phase }, { on := 12, ground := Ground.phase }, { on := 13, ground := Ground.phase }, { on := 14, ground := Ground.phase }, { on := 15, ground := Ground.phase }], guard := none }) (by kernel_rfl) rfl (by kernel_rfl) ?hS (fun hHeld => ?_)
  case hS => exact HS.out _ (gweak (gdrew _ _) _)
  simp only [List.setIfInBounds_toArray, List.set_cons_zero, List.set_cons_succ, idle]
  refine wpAnyH_take (i := 0) (oi := ({ dst := some 77, op := Op.move (Operand.tmp 0), type := 30, pos := "message.go:203", after := #[], guard := none } : Oper)) (v := ?v0) rfl (by kernel_rfl) (by kernel_rfl) (by kernel_rfl) (fun _ _ _ h => h) (Or.inl ⟨by rfl, ?hy0⟩) (by assumption) ?rest0
  case hy0 => (intro w hSw; (try dsimp only at hSw); go_simp; try with_reducible rfl)
  (try simp only [Act.put, List.setIfInBounds_toArray, List.set_cons_zero, List.set_cons_succ])
  refine wpAnyH_take (i := 1) (oi := ({ dst := some 78, op := Op.move (Operand.tmp 0), type := 30, pos := "message.go:203", after := #[], guard := none } : Oper)) (v := ?v1) rfl (by kernel_rfl) (by kernel_rfl) (by kernel_rfl) (fun _ _ _ h => h) (Or.inl ⟨by rfl, ?hy1⟩) (by assumption) ?rest1
  case hy1 => (intro w hSw; (try dsimp only at hSw); go_simp; try with_reducible rfl)
  (try simp only [Act.put, List.setIfInBounds_toArray, List.set_cons_zero, List.set_cons_succ])
  refine wpAnyH_take (i := 2) (oi := ({ dst := some 79, op := Op.nilCheck (Operand.tmp 78), type := 0, pos := "message.go:203", after := #[{ on := 1, ground := Ground.data }], guard := none } : Oper)) (v := ?v2) rfl (by kernel_rfl) (by kernel_rfl) (by kernel_rfl) (fun _ _ _ h => h) (Or.inl ⟨by rfl, ?hy2⟩) (by assumption) ?rest2
  case hy2 => (intro w hSw; (try dsimp only at hSw); go_simp; try with_reducible rfl)
  (try simp only [Act.put, List.setIfInBounds_toArray, List.set_cons_zero, List.set_cons_succ])
  refine wpAnyH_take (i := 3) (oi := ({ dst := some 80, op := Op.fieldAddr 37 (Operand.tmp 79) 5, type := 0, pos := "message.go:203", after := #[{ on := 2, ground := Ground.data }], guard := none } : Oper)) (v := ?v3) rfl (by kernel_rfl) (by kernel_rfl) (by kernel_rfl) (fun _ _ _ h => h) (Or.inl ⟨by rfl, ?hy3⟩) (by assumption) ?rest3
  case hy3 => (intro w hSw; (try dsimp only at hSw); go_simp; try with_reducible rfl)
  (try simp only [Act.put, List.setIfInBounds_toArray, List.set_cons_zero, List.set_cons_succ])
  refine wpAnyH_take (i := 4) (oi := ({ dst := some 81, op := Op.load 35 (Operand.tmp 80), type := 35, pos := "message.go:203", after := #[{ on := 3, ground := Ground.data }], guard := none } : Oper)) (v := ?v4) rfl (by kernel_rfl) (by kernel_rfl) (by kernel_rfl) (fun _ _ _ h => h) (Or.inl ⟨by rfl, ?hy4⟩) (by assumption) ?rest4
  case hy4 => (intro w hSw; (try dsimp only at hSw); go_simp; try with_reducible rfl)
  (try simp only [Act.put, List.setIfInBounds_toArray, List.set_cons_zero, List.set_cons_succ])
  refine wpAnyH_take (i := 5) (oi := ({ dst := some 82, op := Op.load 122 (Operand.global 11), type := 122, pos := "message.go:203", after := #[], guard := none } : Oper)) (v := ?v5) rfl (by kernel_rfl) (by kernel_rfl) (by kernel_rfl) (fun _ _ _ h => h) (Or.inl ⟨by rfl, ?hy5⟩) (by assumption) ?rest5
  case hy5 => (intro w hSw; (try dsimp only at hSw); go_simp; try with_reducible rfl)
  (try simp only [Act.put, List.setIfInBounds_toArray, List.set_cons_zero, List.set_cons_succ])
  refine wpAnyH_take (i := 6) (oi := ({ dst := some 83, op := Op.move (Operand.tmp 4), type := 48, pos := "message.go:203", after := #[], guard := none } : Oper)) (v := ?v6) rfl (by kernel_rfl) (by kernel_rfl) (by kernel_rfl) (fun _ _ _ h => h) (Or.inl ⟨by rfl, ?hy6⟩) (by assumption) ?rest6
  case hy6 => (intro w hSw; (try dsimp only at hSw); go_simp; try with_reducible rfl)
  (try simp only [Act.put, List.setIfInBounds_toArray, List.set_cons_zero, List.set_cons_succ])
  refine wpAnyH_take (i := 7) (oi := ({ dst := some 84, op := Op.nilCheck (Operand.tmp 83), type := 0, pos := "message.go:203", after := #[{ on := 6, ground := Ground.data }], guard := none } : Oper)) (v := ?v7) rfl (by kernel_rfl) (by kernel_rfl) (by kernel_rfl) (fun _ _ _ h => h) (Or.inl ⟨by rfl, ?hy7⟩) (by assumption) ?rest7
  case hy7 => (intro w hSw; (try dsimp only at hSw); go_simp; try with_reducible rfl)
  (try simp only [Act.put, List.setIfInBounds_toArray, List.set_cons_zero, List.set_cons_succ])
  refine wpAnyH_take (i := 8) (oi := ({ dst := some 85, op := Op.fieldAddr 51 (Operand.tmp 84) 2, type := 0, pos := "message.go:203", after := #[{ on := 7, ground := Ground.data }], guard := none } : Oper)) (v := ?v8) rfl (by kernel_rfl) (by kernel_rfl) (by kernel_rfl) (fun _ _ _ h => h) (Or.inl ⟨by rfl, ?hy8⟩) (by assumption) ?rest8
  case hy8 => (intro w hSw; (try dsimp only at hSw); go_simp; try with_reducible rfl)
  (try simp only [Act.put, List.setIfInBounds_toArray, List.set_cons_zero, List.set_cons_succ])
  refine wpAnyH_take (i := 9) (oi := ({ dst := some 86, op := Op.load 49 (Operand.tmp 85), type := 49, pos := "message.go:203", after := #[{ on := 8, ground := Ground.data }], guard := none } : Oper)) (v := ?v9) rfl (by kernel_rfl) (by kernel_rfl) (by kernel_rfl) (fun _ _ _ h => h) (Or.inl ⟨by rfl, ?hy9⟩) (by assumption) ?rest9
  case hy9 => (intro w hSw; (try dsimp only at hSw); go_simp; try with_reducible rfl)
  (try simp only [Act.put, List.setIfInBounds_toArray, List.set_cons_zero, List.set_cons_succ])
  refine wpAnyH_take (i := 10) (oi := ({ dst := some 87, op := Op.nilCheck (Operand.tmp 86), type := 0, pos := "message.go:203", after := #[{ on := 9, ground := Ground.data }], guard := none } : Oper)) (v := ?v10) rfl (by kernel_rfl) (by kernel_rfl) (by kernel_rfl) (fun _ _ _ h => h) (Or.inl ⟨by rfl, ?hy10⟩) (by assumption) ?rest10
  case hy10 => (intro w hSw; (try dsimp only at hSw); go_simp; try with_reducible rfl)
  (try simp only [Act.put, List.setIfInBounds_toArray, List.set_cons_zero, List.set_cons_succ])
  refine wpAnyH_take (i := 11) (oi := ({ dst := some 88, op := Op.load 41 (Operand.tmp 87), type := 41, pos := "message.go:203", after := #[{ on := 10, ground := Ground.data }], guard := none } : Oper)) (v := ?v11) rfl (by kernel_rfl) (by kernel_rfl) (by kernel_rfl) (fun _ _ _ h => h) (Or.inl ⟨by rfl, ?hy11⟩) (by assumption) ?rest11
  case hy11 => (intro w hSw; (try dsimp only at hSw); go_simp; try with_reducible rfl)
  (try simp only [Act.put, List.setIfInBounds_toArray, List.set_cons_zero, List.set_cons_succ])
  refine wpAnyH_ready (rs := [12]) (by kernel_rfl) (by simp) ?_
  refine AllReadyH.cons (o := ({ dst := some 89, op := Op.buildSlice 35 1 #[(0, Operand.tmp 88)], type := 35, pos := "message.go:203", after := #[{ on := 11, ground := Ground.data }], guard := none } : Oper)) rfl (fun K hK => ?_) AllReadyH.nil
  go_simp
  obtain ⟨w1, hw1⟩ : ∃ w1, w1 = (w.alloc (.cells #[.int .u32 fc, .int .u8 0, .int .u32 0, .slice none 0 0] 41)).drew := ⟨_, rfl⟩
  rw [← hw1]
  have G1 : Hid (w.grownBy w1 none) := by show w.grownBy w1 none; rw [hw1]; exact gtrans (World.grownBy_alloc _ _ _) (gdrew _ _)
  have HAT : Hid (∀ i (h : i < [(⟨fc, 0, 0, none, 0, 0, []⟩ : Avp)].length), ([(⟨fc, 0, 0, none, 0, 0, []⟩ : Avp)][i]).At w1 w.heap.size (0 + i * 4) ∧ ([(⟨fc, 0, 0, none, 0, 0, []⟩ : Avp)][i]).Fits w1) := by
    show ∀ i (h : i < [(⟨fc, 0, 0, none, 0, 0, []⟩ : Avp)].length), ([(⟨fc, 0, 0, none, 0, 0, []⟩ : Avp)][i]).At w1 w.heap.size (0 + i * 4) ∧ ([(⟨fc, 0, 0, none, 0, 0, []⟩ : Avp)][i]).Fits w1
    have hb : w1.heap[w.heap.size]? = some (.cells #[.int .u32 fc, .int .u8 0, .int .u32 0, .slice none 0 0] 41 (0, 0)) := by rw [hw1]; exact gblockN (gdrew _ _) (heap_alloc_new _ _)
    intro i h
    match i, h with
    | 0, _ => exact ⟨avp_at hb rfl rfl rfl rfl, ⟨hf0, hf1, by show (0 : Int) ≤ 0; omega, by show (0 : Int) ≤ 255; omega, by show (0 : Int) ≤ 0; omega, by show (0 : Int) < 4294967296; omega, .inl ⟨rfl, rfl, rfl, rfl⟩, fun _ => ⟨rfl, rfl⟩⟩⟩
    | n + 1, h => simp at h
  clear hw1
  refine hK.out _ _ ?hS12 (fun hHeld2 => ?_)
  case hS12 => exact HS.out _ (gweak G1.out _)
  clear hK K hHeld
  have hHeld := hHeld2
  clear hHeld2
  (try simp only [Act.put, List.setIfInBounds_toArray, List.set_cons_zero, List.set_cons_succ])
  refine wpAnyH_ready (rs := [13]) (by kernel_rfl) (by simp) ?_
  refine AllReadyH.cons (o := ({ dst := some 90, op := Op.call { callee := Callee.value (Operand.func 25), args := #[Operand.tmp 82, Operand.tmp 89], argTypes := #[122, 35] }, type := 41, pos := "message.go:203", after := #[{ on := 5, ground := Ground.data }, { on := 12, ground := Ground.data }], guard := none } : Oper)) rfl (fun K hK => ?_) AllReadyH.nil
  go_simp
  refine (Group_any (nm 11) 279 0 9 true w.heap.size 0 1 1 [(⟨fc, 0, 0, none, 0, 0, []⟩ : Avp)] _ rfl (by decide) (by intro a ha; simp only [List.mem_cons, List.not_mem_nil, or_false] at ha; rcases ha with rfl; show (0 : Nat) ≤ 1048576; omega) HAT.out).mono ?_
  rintro e w2 ⟨g, n, hn, rfl, _, hb2⟩
  have G2 : Hid (w.grownBy w2 none) := gtrans G1.out (gofBelow hb2)
  clear hb2 HAT hn
  refine hK.out _ _ ?hS13 (fun hHeld2 => ?_)
  case hS13 => exact HS.out _ (gweak G2.out _)
  clear hK K hHeld
  have hHeld := hHeld2
  clear hHeld2
  (try simp only [Act.put, List.setIfInBounds_toArray, List.set_cons_zero, List.set_cons_succ])
  refine wpAnyH_ready (rs := [14]) (by kernel_rfl) (by simp) ?_
  refine AllReadyH.cons (o := ({ dst := some 91, op := Op.buildSlice 35 1 #[(0, Operand.tmp 90)], type := 35, pos := "message.go:203", after := #[{ on := 13, ground := Ground.data }], guard := none } : Oper)) rfl (fun K hK => ?_) AllReadyH.nil
  go_simp
  obtain ⟨wA, hwA⟩ : ∃ wA, wA = (w2.alloc (.cells (flat [(⟨279, (aflags 0 true), 0, (some ⟨g, 0, none⟩), n, n⟩ : Av)]).toArray 41)) := ⟨_, rfl⟩
  have gA : Hid (w.grownBy wA none) := by show w.grownBy wA none; rw [hwA]; exact gtrans G2.out (World.grownBy_alloc _ _ _)
  have HN : Hid (∀ j u, (flat [(⟨279, (aflags 0 true), 0, (some ⟨g, 0, none⟩), n, n⟩ : Av)])[j]? = some u → wA.cell? ((⟨w2.heap.size, 0, none⟩ : Addr).add j) = some u) := by
    show ∀ j u, (flat [(⟨279, (aflags 0 true), 0, (some ⟨g, 0, none⟩), n, n⟩ : Av)])[j]? = some u → wA.cell? ((⟨w2.heap.size, 0, none⟩ : Addr).add j) = some u
    rw [hwA]
    exact World.news_of_block (heap_alloc_new _ _)
  have eA : (w2.alloc (.cells #[.int .u32 279, .int .u8 (aflags 0 true), .int .u32 0, .slice (some ⟨g, 0, none⟩) n n] 41)) = wA := hwA.symm
  rw [eA]
  clear hwA eA
  refine hK.out _ _ ?hS14 (fun hHeld2 => ?_)
  case hS14 => exact HS.out _ (gweak gA.out _)
  clear hK K hHeld
  have hHeld := hHeld2
  clear hHeld2
  (try simp only [Act.put, List.setIfInBounds_toArray, List.set_cons_zero, List.set_cons_succ])
  refine wpAnyH_ready (rs := [15]) (by kernel_rfl) (by simp) ?_
  refine AllReadyH.cons (o := ({ dst := some 92, op := Op.call { callee := Callee.builtin Builtin.append, args := #[Operand.tmp 81, Operand.tmp 91], argTypes := #[35, 35] }, type := 35, pos := "message.go:203", after := #[{ on := 4, ground := Ground.data }, { on := 14, ground := Ground.data }, { on := 13, ground := Ground.chain }], guard := none } : Oper)) rfl (fun K hK => ?_) AllReadyH.nil
  have HX : Hid (avs.length + 1 ≤ maxLen ∧ B ≤ wA.heap.size ∧ (avs.length + 1) * 40 ≤ 140737488355328) := ⟨by have := HNN.out; unfold maxLen; omega, Nat.le_trans MS.out.size gA.out.size, by have := HNN.out; omega⟩
  refine step_append_lies _ rfl (.tmp 81) (.tmp 91) 35 rfl B 41 i0 (.agg #[.int .u32 0, .int .u8 0, .int .u32 0, .slice none 0 0]) 4 40 Ybad.underlying35 hi hz0 hz1 hz2 rfl (by decide) sv avs.length (flat avs) (by simp [Act.eval, Act.put]) (MS.out.grow gA.out).row ⟨w2.heap.size, 0, none⟩ 1 1 (flat [(⟨279, (aflags 0 true), 0, (some ⟨g, 0, none⟩), n, n⟩ : Av)]) (by simp [Act.eval, Act.put]) rfl HN.out (flat_one _) (by decide) HX.out.1 HX.out.2.2 HX.out.2.1 _ rfl ?_
  intro gz capz wz hown4 hg4 _ _
  have HO4 : Hid (wz.ownsRow B 41 4 (.slice (some ⟨gz, 0, none⟩) (avs.length + 1) capz) (avs.length + 1) (flat avs ++ flat [(⟨279, (aflags 0 true), 0, (some ⟨g, 0, none⟩), n, n⟩ : Av)])) := hown4
  have HG4 : Hid (wA.grownBy wz sv.ownBlock) := hg4
  have P4 : Hid (wz.heap[p]? = _) := gblock hg4 (MS.out.grow gA.out).box (own_ne41 (MS.out.grow gA.out).row (MS.out.grow gA.out).box (by decide))
  have q4 : wz.cell? ⟨p, 5, none⟩ = some sv := cellOf P4.out
  have z4 : wz.frozen? ⟨p, 5, none⟩ = false := frozenOf P4.out
  clear hown4 hg4
  refine hK.out _ _ ?hS15 (fun hHeld2 => ?_)
  case hS15 => exact HS.out _ (gtrans (gweak gA.out _) HG4.out)
  clear hK K hHeld
  have hHeld := hHeld2
  clear hHeld2
  (try simp only [Act.put, List.setIfInBounds_toArray, List.set_cons_zero, List.set_cons_succ])
  refine wpAnyH_take (i := 16) (oi := ({ dst := some 93, op := Op.nilCheck (Operand.tmp 77), type := 0, pos := "message.go:203", after := #[{ on := 0, ground := Ground.data }, { on := 0, ground := Ground.phase }, { on := 1, ground := Ground.phase }, { on := 2, ground := Ground.phase }, { on := 3, ground := Ground.phase }, { on := 4, ground := Ground.phase }, { on := 5, ground := Ground.phase }, { on := 6, ground := Ground.phase }, { on := 7, ground := Ground.phase }, { on := 8, ground := Ground.phase }, { on := 9, ground := Ground.phase }, { on := 10, ground := Ground.phase }, { on := 11, ground := Ground.phase }, { on := 12, ground := Ground.phase }, { on := 13, ground := Ground.phase }, { on := 14, ground := Ground.phase }, { on := 15, ground := Ground.phase }], guard := none } : Oper)) (v := ?v16) rfl (by kernel_rfl) (by kernel_rfl) (by kernel_rfl) (fun _ _ _ h => h) (Or.inl ⟨by rfl, ?hy16⟩) (by assumption) ?rest16
  case hy16 => (intro w hSw; (try dsimp only at hSw); go_simp; try with_reducible rfl)
  (try simp only [Act.put, List.setIfInBounds_toArray, List.set_cons_zero, List.set_cons_succ])
  refine wpAnyH_take (i := 17) (oi := ({ dst := some 94, op := Op.fieldAddr 37 (Operand.tmp 93) 5, type := 0, pos := "message.go:203", after := #[{ on := 16, ground := Ground.data }, { on := 0, ground := Ground.phase }, { on := 1, ground := Ground.phase }, { on := 2, ground := Ground.phase }, { on := 3, ground := Ground.phase }, { on := 4, ground := Ground.phase }, { on := 5, ground := Ground.phase }, { on := 6, ground := Ground.phase }, { on := 7, ground := Ground.phase }, { on := 8, ground := Ground.phase }, { on := 9, ground := Ground.phase }, { on := 10, ground := Ground.phase }, { on := 11, ground := Ground.phase }, { on := 12, ground := Ground.phase }, { on := 13, ground := Ground.phase }, { on := 14, ground := Ground.phase }, { on := 15, ground := Ground.phase }], guard := none } : Oper)) (v := ?v17) rfl (by kernel_rfl) (by kernel_rfl) (by kernel_rfl) (fun _ _ _ h => h) (Or.inl ⟨by rfl, ?hy17⟩) (by assumption) ?rest17
  case hy17 => (intro w hSw; (try dsimp only at hSw); go_simp; try with_reducible rfl)
  (try simp only [Act.put, List.setIfInBounds_toArray, List.set_cons_zero, List.set_cons_succ])
  refine wpAnyH_take (i := 18) (oi := ({ dst := none, op := Op.move (Operand.const (Value.bool true)), type := 0, pos := "message.go:203", after := #[{ on := 17, ground := Ground.data }, { on := 15, ground := Ground.data }, { on := 15, ground := Ground.chain }, { on := 0, ground := Ground.phase }, { on := 1, ground := Ground.phase }, { on := 2, ground := Ground.phase }, { on := 3, ground := Ground.phase }, { on := 4, ground := Ground.phase }, { on := 5, ground := Ground.phase }, { on := 6, ground := Ground.phase }, { on := 7, ground := Ground.phase }, { on := 8, ground := Ground.phase }, { on := 9, ground := Ground.phase }, { on := 10, ground := Ground.phase }, { on := 11, ground := Ground.phase }, { on := 12, ground := Ground.phase }, { on := 13, ground := Ground.phase }, { on := 14, ground := Ground.phase }, { on := 15, ground := Ground.phase }], guard := none } : Oper)) (v := ?v18) rfl (by kernel_rfl) (by kernel_rfl) (by kernel_rfl) (fun _ _ _ h => h) (Or.inl ⟨by rfl, ?hy18⟩) (by assumption) ?rest18
  case hy18 => (intro w hSw; (try dsimp only at hSw); go_simp; try with_reducible rfl)
  (try simp only [Act.put, List.setIfInBounds_toArray, List.set_cons_zero, List.set_cons_succ])
  refine wpAnyH_done (by kernel_rfl) ?_ _
  simp only [afterLast]
  refine wpOp_step (i := 18) (o := ({ dst := none, op := Op.store 35 (Operand.tmp 94) (Operand.tmp 92), type := 0, pos := "message.go:203", after := #[{ on := 17, ground := Ground.data }, { on := 15, ground := Ground.data }, { on := 15, ground := Ground.chain }, { on := 0, ground := Ground.phase }, { on := 1, ground := Ground.phase }, { on := 2, ground := Ground.phase }, { on := 3, ground := Ground.phase }, { on := 4, ground := Ground.phase }, { on := 5, ground := Ground.phase }, { on := 6, ground := Ground.phase }, { on := 7, ground := Ground.phase }, { on := 8, ground := Ground.phase }, { on := 9, ground := Ground.phase }, { on := 10, ground := Ground.phase }, { on := 11, ground := Ground.phase }, { on := 12, ground := Ground.phase }, { on := 13, ground := Ground.phase }, { on := 14, ground := Ground.phase }, { on := 15, ground := Ground.phase }], guard := none } : Oper)) rfl (fun K hK => ?_)
  go_simp
  exact hK _ _ (NoPanic.normal (HQ.out _ _ _ _ _ _ _ _ _ _ _ _ _ _ _ _ _ _ _ _ rfl (app_post MS.out gA.out HO4.out HG4.out)))
end Go.Proofs.YbulkaptmDoor
