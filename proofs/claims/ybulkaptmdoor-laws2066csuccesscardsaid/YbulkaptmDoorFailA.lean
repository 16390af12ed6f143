/-
  Fail: the Result-Code.
-/
import Derived.Test.YbulkaptmDoorSrv
namespace Go.Proofs.YbulkaptmDoor
open Go.RowKit
set_option linter.unusedVariables false
set_option linter.unusedSimpArgs false
set_option maxRecDepth 100000

set_option maxHeartbeats 3200000 in
theorem fail_r7 {Q : Exit → Act → World → Prop} {ds : List Deferred} {t1 t2 t3 t5 t6 t7 t8 t9 t10 t11 t12 t13 t14 t15 t16 t17 t18 t19 t20 t21 t22 t23 t24 t25 t26 t27 t28 t29 t30 t31 t32 t33 t34 t35 t36 t37 t38 t39 t40 t41 t42 t43 t44 t45 t46 t47 t48 t49 t50 t51 t52 t53 t54 t55 t56 t57 t58 t59 t60 t61 t62 t63 t64 t65 t66 t67 t68 t69 t70 t71 t72 t73 t74 t75 t76 t77 t78 t79 t80 t81 t82 t83 t84 t85 t86 t87 t88 t89 t90 t91 t92 t93 t94 : Value} {w : World} {B p : Nat} {fl cmd app hop ete : Int} {sv : Value} {avs : List Av} {nm : Nat → ByteArray} {z : Addr} {e0 : Nat} {r v : Int} {ep : Value}
    (hms : MsgSt w B p fl cmd app hop ete sv avs) (hG : Globs w nm z) (hB : 17 ≤ B) (hn : avs.length ≤ 100000) (he : w.heap[e0]? = some (.cells #[.int .u32 r, .int .u32 v, ep] 51 (0, 0))) (hr0 : 0 ≤ r) (hr1 : r < 4294967296)
    (hQ : ∀ (s57 s58 s59 s60 s61 s62 s63 s64 s65 s66 s67 s68 s69 s70 s71 : Value) (w' : World) (a1 : Av), a1.code = 268 → a1.dl = 4 → U8s w' a1.da 4 (be32 r) → AppPost w B p fl cmd app hop ete avs [a1] w' → Q .normal { tmps := #[(.pointer (some ⟨p, 0, none⟩)), t1, t2, t3, (.pointer (some ⟨e0, 0, none⟩)), t5, t6, t7, t8, t9, t10, t11, t12, t13, t14, t15, t16, t17, t18, t19, t20, t21, t22, t23, t24, t25, t26, t27, t28, t29, t30, t31, t32, t33, t34, t35, t36, t37, t38, t39, t40, t41, t42, t43, t44, t45, t46, t47, t48, t49, t50, t51, t52, t53, t54, t55, t56, s57, s58, s59, s60, s61, s62, s63, s64, s65, s66, s67, s68, s69, s70, s71, t72, t73, t74, t75, t76, t77, t78, t79, t80, t81, t82, t83, t84, t85, t86, t87, t88, t89, t90, t91, t92, t93, t94], defers := ds } w') :
    (Code.region 7 #[{ dst := some 57, op := Op.move (Operand.tmp 0), type := 30, pos := "message.go:200", after := #[], guard := none }, { dst := some 58, op := Op.move (Operand.tmp 0), type := 30, pos := "message.go:200", after := #[], guard := none }, { dst := some 59, op := Op.nilCheck (Operand.tmp 58), type := 0, pos := "message.go:200", after := #[{ on := 1, ground := Ground.data }], guard := none }, { dst := some 60, op := Op.fieldAddr 37 (Operand.tmp 59) 5, type := 0, pos := "message.go:200", after := #[{ on := 2, ground := Ground.data }], guard := none }, { dst := some 61, op := Op.load 35 (Operand.tmp 60), type := 35, pos := "message.go:200", after := #[{ on := 3, ground := Ground.data }], guard := none }, { dst := some 62, op := Op.load 122 (Operand.global 0), type := 122, pos := "message.go:200", after := #[], guard := none }, { dst := some 63, op := Op.move (Operand.tmp 4), type := 48, pos := "message.go:200", after := #[], guard := none }, { dst := some 64, op := Op.nilCheck (Operand.tmp 63), type := 0, pos := "message.go:200", after := #[{ on := 6, ground := Ground.data }], guard := none }, { dst := some 65, op := Op.fieldAddr 51 (Operand.tmp 64) 0, type := 0, pos := "message.go:200", after := #[{ on := 7, ground := Ground.data }], guard := none }, { dst := some 66, op := Op.load 22 (Operand.tmp 65), type := 22, pos := "message.go:200", after := #[{ on := 8, ground := Ground.data }], guard := none }, { dst := some 67, op := Op.call { callee := Callee.value (Operand.func 17), args := #[Operand.tmp 62, Operand.tmp 66], argTypes := #[122, 22] }, type := 41, pos := "message.go:200", after := #[{ on := 5, ground := Ground.data }, { on := 9, ground := Ground.data }], guard := none }, { dst := some 68, op := Op.buildSlice 35 1 #[(0, Operand.tmp 67)], type := 35, pos := "message.go:200", after := #[{ on := 10, ground := Ground.data }], guard := none }, { dst := some 69, op := Op.call { callee := Callee.builtin Builtin.append, args := #[Operand.tmp 61, Operand.tmp 68], argTypes := #[35, 35] }, type := 35, pos := "message.go:200", after := #[{ on := 4, ground := Ground.data }, { on := 11, ground := Ground.data }, { on := 10, ground := Ground.chain }], guard := none }, { dst := some 70, op := Op.nilCheck (Operand.tmp 57), type := 0, pos := "message.go:200", after := #[{ on := 0, ground := Ground.data }, { on := 0, ground := Ground.phase }, { on := 1, ground := Ground.phase }, { on := 2, ground := Ground.phase }, { on := 3, ground := Ground.phase }, { on := 4, ground := Ground.phase }, { on := 5, ground := Ground.phase }, { on := 6, ground := Ground.phase }, { on := 7, ground := Ground.phase }, { on := 8, ground := Ground.phase }, { on := 9, ground := Ground.phase }, { on := 10, ground := Ground.phase }, { on := 11, ground := Ground.phase }, { on := 12, ground := Ground.phase }], guard := none }, { dst := some 71, op := Op.fieldAddr 37 (Operand.tmp 70) 5, type := 0, pos := "message.go:200", after := #[{ on := 13, ground := Ground.data }, { on := 0, ground := Ground.phase }, { on := 1, ground := Ground.phase }, { on := 2, ground := Ground.phase }, { on := 3, ground := Ground.phase }, { on := 4, ground := Ground.phase }, { on := 5, ground := Ground.phase }, { on := 6, ground := Ground.phase }, { on := 7, ground := Ground.phase }, { on := 8, ground := Ground.phase }, { on := 9, ground := Ground.phase }, { on := 10, ground := Ground.phase }, { on := 11, ground := Ground.phase }, { on := 12, ground := Ground.phase }], guard := none }, { dst := none, op := Op.store 35 (Operand.tmp 71) (Operand.tmp 69), type := 0, pos := "message.go:200", after := #[{ on := 14, ground := Ground.data }, { on := 12, ground := Ground.data }, { on := 12, ground := Ground.chain }, { on := 0, ground := Ground.phase }, { on := 1, ground := Ground.phase }, { on := 2, ground := Ground.phase }, { on := 3, ground := Ground.phase }, { on := 4, ground := Ground.phase }, { on := 5, ground := Ground.phase }, { on := 6, ground := Ground.phase }, { on := 7, ground := Ground.phase }, { on := 8, ground := Ground.phase }, { on := 9, ground := Ground.phase }, { on := 10, ground := Ground.phase }, { on := 11, ground := Ground.phase }, { on := 12, ground := Ground.phase }], guard := none }] true).wp Ybad.prog Q { tmps := #[(.pointer (some ⟨p, 0, none⟩)), t1, t2, t3, (.pointer (some ⟨e0, 0, none⟩)), t5, t6, t7, t8, t9, t10, t11, t12, t13, t14, t15, t16, t17, t18, t19, t20, t21, t22, t23, t24, t25, t26, t27, t28, t29, t30, t31, t32, t33, t34, t35, t36, t37, t38, t39, t40, t41, t42, t43, t44, t45, t46, t47, t48, t49, t50, t51, t52, t53, t54, t55, t56, t57, t58, t59, t60, t61, t62, t63, t64, t65, t66, t67, t68, t69, t70, t71, t72, t73, t74, t75, t76, t77, t78, t79, t80, t81, t82, t83, t84, t85, t86, t87, t88, t89, t90, t91, t92, t93, t94], defers := ds } w := by
  obtain ⟨i0, hi, hz0, hz1, hz2⟩ := info_parts info41
  have MS : Hid (MsgSt w B p fl cmd app hop ete sv avs) := hms
  have GL : Hid (Globs w nm z) := hG
  have HNN : Hid (avs.length ≤ 100000) := hn
  have HE : Hid (w.heap[e0]? = some (.cells #[.int .u32 r, .int .u32 v, ep] 51 (0, 0))) := he
  have HS : Hid (∀ w', w.grownBy w' sv.ownBlock → (fun w' => w'.cell? ⟨p, 5, none⟩ = some sv ∧ w'.cell? ⟨0, 0, none⟩ = some (.string (nm 0)) ∧ w'.cell? ⟨0, 1, none⟩ = some (.int .u32 268) ∧ w'.cell? ⟨0, 2, none⟩ = some (.int .u32 0) ∧ w'.cell? ⟨0, 3, none⟩ = some (.bool true) ∧ w'.cell? ⟨0, 4, none⟩ = some (.int .u8 4) ∧ w'.cell? ⟨e0, 0, none⟩ = some (.int .u32 r)) w') := by
    show ∀ w', w.grownBy w' sv.ownBlock → (fun w' => w'.cell? ⟨p, 5, none⟩ = some sv ∧ w'.cell? ⟨0, 0, none⟩ = some (.string (nm 0)) ∧ w'.cell? ⟨0, 1, none⟩ = some (.int .u32 268) ∧ w'.cell? ⟨0, 2, none⟩ = some (.int .u32 0) ∧ w'.cell? ⟨0, 3, none⟩ = some (.bool true) ∧ w'.cell? ⟨0, 4, none⟩ = some (.int .u8 4) ∧ w'.cell? ⟨e0, 0, none⟩ = some (.int .u32 r)) w'
    intro w' hg
    have g17 : Below 17 w w' := gbelow hg (Nat.le_trans hB MS.out.size) (fun k hk => Nat.le_trans hB (MS.out.row.lt _ hk).1)
    have gg := GL.out.below g17
    have hb := gblock hg HE.out (own_ne41 MS.out.row HE.out (by decide))
    exact ⟨cellOf (gblock hg MS.out.box (own_ne41 MS.out.row MS.out.box (by decide))), gg.g0.c0, gg.g0.c1, gg.g0.c2, gg.g0.c3, gg.g0.c4, cellOf hb⟩
  have HQ : Hid (∀ (s57 s58 s59 s60 s61 s62 s63 s64 s65 s66 s67 s68 s69 s70 s71 : Value) (w' : World) (a1 : Av), a1.code = 268 → a1.dl = 4 → U8s w' a1.da 4 (be32 r) → AppPost w B p fl cmd app hop ete avs [a1] w' → Q .normal { tmps := #[(.pointer (some ⟨p, 0, none⟩)), t1, t2, t3, (.pointer (some ⟨e0, 0, none⟩)), t5, t6, t7, t8, t9, t10, t11, t12, t13, t14, t15, t16, t17, t18, t19, t20, t21, t22, t23, t24, t25, t26, t27, t28, t29, t30, t31, t32, t33, t34, t35, t36, t37, t38, t39, t40, t41, t42, t43, t44, t45, t46, t47, t48, t49, t50, t51, t52, t53, t54, t55, t56, s57, s58, s59, s60, s61, s62, s63, s64, s65, s66, s67, s68, s69, s70, s71, t72, t73, t74, t75, t76, t77, t78, t79, t80, t81, t82, t83, t84, t85, t86, t87, t88, t89, t90, t91, t92, t93, t94], defers := ds } w') := hQ
  clear hms hG hQ hn
  clear he
  refine wp_region_noPanic ?_
  refine wp_region_last (S := (fun w' => w'.cell? ⟨p, 5, none⟩ = some sv ∧ w'.cell? ⟨0, 0, none⟩ = some (.string (nm 0)) ∧ w'.cell? ⟨0, 1, none⟩ = some (.int .u32 268) ∧ w'.cell? ⟨0, 2, none⟩ = some (.int .u32 0) ∧ w'.cell? ⟨0, 3, none⟩ = some (.bool true) ∧ w'.cell? ⟨0, 4, none⟩ = some (.int .u8 4) ∧ w'.cell? ⟨e0, 0, none⟩ = some (.int .u32 r))) 15 ({ dst := none, op := Op.store 35 (Operand.tmp 71) (Operand.tmp 69), type := 0, pos := "message.go:200", after := #[{ on := 14, ground := Ground.data }, { on := 12, ground := Ground.data }, { on := 12, ground := Ground.chain }, { on := 0, ground := Ground.phase }, { on := 1, ground := Ground.phase }, { on := 2, ground := Ground.phase }, { on := 3, ground := Ground.phase }, { on := 4, ground := Ground.phase }, { on := 5, ground := Ground.phase }, { on := 6, ground := Ground.phase }, { on := 7, ground := Ground.phase }, { on := 8, ground := Ground.phase }, { on := 9, ground := Ground.phase }, { on := 10, ground := Ground.phase }, { on := 11, ground := Ground.phase }, { on := 12, ground := Ground.phase }], guard := none }) (by kernel_rfl) rfl (by kernel_rfl) ?hS (fun hHeld => ?_)
  case hS => exact HS.out _ (gweak (gdrew _ _) _)
  simp only [List.setIfInBounds_toArray, List.set_cons_zero, List.set_cons_succ, idle]
  refine wpAnyH_take (i := 0) (oi := ({ dst := some 57, op := Op.move (Operand.tmp 0), type := 30, pos := "message.go:200", after := #[], guard := none } : Oper)) (v := ?v0) rfl (by kernel_rfl) (by kernel_rfl) (by kernel_rfl) (fun _ _ _ h => h) (Or.inl ⟨by rfl, ?hy0⟩) (by assumption) ?rest0
  case hy0 => (intro w hSw; (try dsimp only at hSw); go_simp; try with_reducible rfl)
  (try simp only [Act.put, List.setIfInBounds_toArray, List.set_cons_zero, List.set_cons_succ])
  refine wpAnyH_take (i := 1) (oi := ({ dst := some 58, op := Op.move (Operand.tmp 0), type := 30, pos := "message.go:200", after := #[], guard := none } : Oper)) (v := ?v1) rfl (by kernel_rfl) (by kernel_rfl) (by kernel_rfl) (fun _ _ _ h => h) (Or.inl ⟨by rfl, ?hy1⟩) (by assumption) ?rest1
  case hy1 => (intro w hSw; (try dsimp only at hSw); go_simp; try with_reducible rfl)
  (try simp only [Act.put, List.setIfInBounds_toArray, List.set_cons_zero, List.set_cons_succ])
  refine wpAnyH_take (i := 2) (oi := ({ dst := some 59, op := Op.nilCheck (Operand.tmp 58), type := 0, pos := "message.go:200", after := #[{ on := 1, ground := Ground.data }], guard := none } : Oper)) (v := ?v2) rfl (by kernel_rfl) (by kernel_rfl) (by kernel_rfl) (fun _ _ _ h => h) (Or.inl ⟨by rfl, ?hy2⟩) (by assumption) ?rest2
  case hy2 => (intro w hSw; (try dsimp only at hSw); go_simp; try with_reducible rfl)
  (try simp only [Act.put, List.setIfInBounds_toArray, List.set_cons_zero, List.set_cons_succ])
  refine wpAnyH_take (i := 3) (oi := ({ dst := some 60, op := Op.fieldAddr 37 (Operand.tmp 59) 5, type := 0, pos := "message.go:200", after := #[{ on := 2, ground := Ground.data }], guard := none } : Oper)) (v := ?v3) rfl (by kernel_rfl) (by kernel_rfl) (by kernel_rfl) (fun _ _ _ h => h) (Or.inl ⟨by rfl, ?hy3⟩) (by assumption) ?rest3
  case hy3 => (intro w hSw; (try dsimp only at hSw); go_simp; try with_reducible rfl)
  (try simp only [Act.put, List.setIfInBounds_toArray, List.set_cons_zero, List.set_cons_succ])
  refine wpAnyH_take (i := 4) (oi := ({ dst := some 61, op := Op.load 35 (Operand.tmp 60), type := 35, pos := "message.go:200", after := #[{ on := 3, ground := Ground.data }], guard := none } : Oper)) (v := ?v4) rfl (by kernel_rfl) (by kernel_rfl) (by kernel_rfl) (fun _ _ _ h => h) (Or.inl ⟨by rfl, ?hy4⟩) (by assumption) ?rest4
  case hy4 => (intro w hSw; (try dsimp only at hSw); go_simp; try with_reducible rfl)
  (try simp only [Act.put, List.setIfInBounds_toArray, List.set_cons_zero, List.set_cons_succ])
  refine wpAnyH_take (i := 5) (oi := ({ dst := some 62, op := Op.load 122 (Operand.global 0), type := 122, pos := "message.go:200", after := #[], guard := none } : Oper)) (v := ?v5) rfl (by kernel_rfl) (by kernel_rfl) (by kernel_rfl) (fun _ _ _ h => h) (Or.inl ⟨by rfl, ?hy5⟩) (by assumption) ?rest5
  case hy5 => (intro w hSw; (try dsimp only at hSw); go_simp; try with_reducible rfl)
  (try simp only [Act.put, List.setIfInBounds_toArray, List.set_cons_zero, List.set_cons_succ])
  refine wpAnyH_take (i := 6) (oi := ({ dst := some 63, op := Op.move (Operand.tmp 4), type := 48, pos := "message.go:200", after := #[], guard := none } : Oper)) (v := ?v6) rfl (by kernel_rfl) (by kernel_rfl) (by kernel_rfl) (fun _ _ _ h => h) (Or.inl ⟨by rfl, ?hy6⟩) (by assumption) ?rest6
  case hy6 => (intro w hSw; (try dsimp only at hSw); go_simp; try with_reducible rfl)
  (try simp only [Act.put, List.setIfInBounds_toArray, List.set_cons_zero, List.set_cons_succ])
  refine wpAnyH_take (i := 7) (oi := ({ dst := some 64, op := Op.nilCheck (Operand.tmp 63), type := 0, pos := "message.go:200", after := #[{ on := 6, ground := Ground.data }], guard := none } : Oper)) (v := ?v7) rfl (by kernel_rfl) (by kernel_rfl) (by kernel_rfl) (fun _ _ _ h => h) (Or.inl ⟨by rfl, ?hy7⟩) (by assumption) ?rest7
  case hy7 => (intro w hSw; (try dsimp only at hSw); go_simp; try with_reducible rfl)
  (try simp only [Act.put, List.setIfInBounds_toArray, List.set_cons_zero, List.set_cons_succ])
  refine wpAnyH_take (i := 8) (oi := ({ dst := some 65, op := Op.fieldAddr 51 (Operand.tmp 64) 0, type := 0, pos := "message.go:200", after := #[{ on := 7, ground := Ground.data }], guard := none } : Oper)) (v := ?v8) rfl (by kernel_rfl) (by kernel_rfl) (by kernel_rfl) (fun _ _ _ h => h) (Or.inl ⟨by rfl, ?hy8⟩) (by assumption) ?rest8
  case hy8 => (intro w hSw; (try dsimp only at hSw); go_simp; try with_reducible rfl)
  (try simp only [Act.put, List.setIfInBounds_toArray, List.set_cons_zero, List.set_cons_succ])
  refine wpAnyH_take (i := 9) (oi := ({ dst := some 66, op := Op.load 22 (Operand.tmp 65), type := 22, pos := "message.go:200", after := #[{ on := 8, ground := Ground.data }], guard := none } : Oper)) (v := ?v9) rfl (by kernel_rfl) (by kernel_rfl) (by kernel_rfl) (fun _ _ _ h => h) (Or.inl ⟨by rfl, ?hy9⟩) (by assumption) ?rest9
  case hy9 => (intro w hSw; (try dsimp only at hSw); go_simp; try with_reducible rfl)
  (try simp only [Act.put, List.setIfInBounds_toArray, List.set_cons_zero, List.set_cons_succ])
  refine wpAnyH_ready (rs := [10]) (by kernel_rfl) (by simp) ?_
  refine AllReadyH.cons (o := ({ dst := some 67, op := Op.call { callee := Callee.value (Operand.func 17), args := #[Operand.tmp 62, Operand.tmp 66], argTypes := #[122, 22] }, type := 41, pos := "message.go:200", after := #[{ on := 5, ground := Ground.data }, { on := 9, ground := Ground.data }], guard := none } : Oper)) rfl (fun K hK => ?_) AllReadyH.nil
  go_simp
  refine (attrU32 (nm 0) 268 0 4 true r hr0 hr1 _).mono ?_
  rintro e w1 ⟨⟨da1, dc1, rfl, hu1⟩, hg1⟩
  have G1 : Hid (w.grownBy w1 none) := gtrans (gdrew _ _) hg1
  have U1 : Hid (U8s w1 da1 4 (be32 r)) := hu1
  clear hg1 hu1
  refine hK.out _ _ ?hS10 (fun hHeld2 => ?_)
  case hS10 => exact HS.out _ (gweak G1.out _)
  clear hK K hHeld
  have hHeld := hHeld2
  clear hHeld2
  (try simp only [Act.put, List.setIfInBounds_toArray, List.set_cons_zero, List.set_cons_succ])
  refine wpAnyH_ready (rs := [11]) (by kernel_rfl) (by simp) ?_
  refine AllReadyH.cons (o := ({ dst := some 68, op := Op.buildSlice 35 1 #[(0, Operand.tmp 67)], type := 35, pos := "message.go:200", after := #[{ on := 10, ground := Ground.data }], guard := none } : Oper)) rfl (fun K hK => ?_) AllReadyH.nil
  go_simp
  obtain ⟨wA, hwA⟩ : ∃ wA, wA = (w1.alloc (.cells (flat [(⟨268, (aflags 0 true), 0, da1, 4, dc1⟩ : Av)]).toArray 41)) := ⟨_, rfl⟩
  have gA : Hid (w.grownBy wA none) := by show w.grownBy wA none; rw [hwA]; exact gtrans G1.out (World.grownBy_alloc _ _ _)
  have HN : Hid (∀ j u, (flat [(⟨268, (aflags 0 true), 0, da1, 4, dc1⟩ : Av)])[j]? = some u → wA.cell? ((⟨w1.heap.size, 0, none⟩ : Addr).add j) = some u) := by
    show ∀ j u, (flat [(⟨268, (aflags 0 true), 0, da1, 4, dc1⟩ : Av)])[j]? = some u → wA.cell? ((⟨w1.heap.size, 0, none⟩ : Addr).add j) = some u
    rw [hwA]
    exact World.news_of_block (heap_alloc_new _ _)
  have eA : (w1.alloc (.cells #[.int .u32 268, .int .u8 (aflags 0 true), .int .u32 0, .slice da1 4 dc1] 41)) = wA := hwA.symm
  rw [eA]
  have UA1 : Hid (U8s wA da1 4 (be32 r)) := by show U8s wA da1 4 (be32 r); rw [hwA]; exact U1.out.grow (World.grownBy_alloc _ _ _)
  clear hwA eA
  refine hK.out _ _ ?hS11 (fun hHeld2 => ?_)
  case hS11 => exact HS.out _ (gweak gA.out _)
  clear hK K hHeld
  have hHeld := hHeld2
  clear hHeld2
  (try simp only [Act.put, List.setIfInBounds_toArray, List.set_cons_zero, List.set_cons_succ])
  refine wpAnyH_ready (rs := [12]) (by kernel_rfl) (by simp) ?_
  refine AllReadyH.cons (o := ({ dst := some 69, op := Op.call { callee := Callee.builtin Builtin.append, args := #[Operand.tmp 61, Operand.tmp 68], argTypes := #[35, 35] }, type := 35, pos := "message.go:200", after := #[{ on := 4, ground := Ground.data }, { on := 11, ground := Ground.data }, { on := 10, ground := Ground.chain }], guard := none } : Oper)) rfl (fun K hK => ?_) AllReadyH.nil
  have HX : Hid (avs.length + 1 ≤ maxLen ∧ B ≤ wA.heap.size ∧ (avs.length + 1) * 40 ≤ 140737488355328) := ⟨by have := HNN.out; unfold maxLen; omega, Nat.le_trans MS.out.size gA.out.size, by have := HNN.out; omega⟩
  refine step_append_lies _ rfl (.tmp 61) (.tmp 68) 35 rfl B 41 i0 (.agg #[.int .u32 0, .int .u8 0, .int .u32 0, .slice none 0 0]) 4 40 Ybad.underlying35 hi hz0 hz1 hz2 rfl (by decide) sv avs.length (flat avs) (by simp [Act.eval, Act.put]) (MS.out.grow gA.out).row ⟨w1.heap.size, 0, none⟩ 1 1 (flat [(⟨268, (aflags 0 true), 0, da1, 4, dc1⟩ : Av)]) (by simp [Act.eval, Act.put]) rfl HN.out (flat_one _) (by decide) HX.out.1 HX.out.2.2 HX.out.2.1 _ rfl ?_
  intro gz capz wz hown4 hg4 _ _
  have HO4 : Hid (wz.ownsRow B 41 4 (.slice (some ⟨gz, 0, none⟩) (avs.length + 1) capz) (avs.length + 1) (flat avs ++ flat [(⟨268, (aflags 0 true), 0, da1, 4, dc1⟩ : Av)])) := hown4
  have HG4 : Hid (wA.grownBy wz sv.ownBlock) := hg4
  have P4 : Hid (wz.heap[p]? = _) := gblock hg4 (MS.out.grow gA.out).box (own_ne41 (MS.out.grow gA.out).row (MS.out.grow gA.out).box (by decide))
  have q4 : wz.cell? ⟨p, 5, none⟩ = some sv := cellOf P4.out
  have z4 : wz.frozen? ⟨p, 5, none⟩ = false := frozenOf P4.out
  clear hown4 hg4
  refine hK.out _ _ ?hS12 (fun hHeld2 => ?_)
  case hS12 => exact HS.out _ (gtrans (gweak gA.out _) HG4.out)
  clear hK K hHeld
  have hHeld := hHeld2
  clear hHeld2
  (try simp only [Act.put, List.setIfInBounds_toArray, List.set_cons_zero, List.set_cons_succ])
  refine wpAnyH_take (i := 13) (oi := ({ dst := some 70, op := Op.nilCheck (Operand.tmp 57), type := 0, pos := "message.go:200", after := #[{ on := 0, ground := Ground.data }, { on := 0, ground := Ground.phase }, { on := 1, ground := Ground.phase }, { on := 2, ground := Ground.phase }, { on := 3, ground := Ground.phase }, { on := 4, ground := Ground.phase }, { on := 5, ground := Ground.phase }, { on := 6, ground := Ground.phase }, { on := 7, ground := Ground.phase }, { on := 8, ground := Ground.phase }, { on := 9, ground := Ground.phase }, { on := 10, ground := Ground.phase }, { on := 11, ground := Ground.phase }, { on := 12, ground := Ground.phase }], guard := none } : Oper)) (v := ?v13) rfl (by kernel_rfl) (by kernel_rfl) (by kernel_rfl) (fun _ _ _ h => h) (Or.inl ⟨by rfl, ?hy13⟩) (by assumption) ?rest13
  case hy13 => (intro w hSw; (try dsimp only at hSw); go_simp; try with_reducible rfl)
  (try simp only [Act.put, List.setIfInBounds_toArray, List.set_cons_zero, List.set_cons_succ])
  refine wpAnyH_take (i := 14) (oi := ({ dst := some 71, op := Op.fieldAddr 37 (Operand.tmp 70) 5, type := 0, pos := "message.go:200", after := #[{ on := 13, ground := Ground.data }, { on := 0, ground := Ground.phase }, { on := 1, ground := Ground.phase }, { on := 2, ground := Ground.phase }, { on := 3, ground := Ground.phase }, { on := 4, ground := Ground.phase }, { on := 5, ground := Ground.phase }, { on := 6, ground := Ground.phase }, { on := 7, ground := Ground.phase }, { on := 8, ground := Ground.phase }, { on := 9, ground := Ground.phase }, { on := 10, ground := Ground.phase }, { on := 11, ground := Ground.phase }, { on := 12, ground := Ground.phase }], guard := none } : Oper)) (v := ?v14) rfl (by kernel_rfl) (by kernel_rfl) (by kernel_rfl) (fun _ _ _ h => h) (Or.inl ⟨by rfl, ?hy14⟩) (by assumption) ?rest14
  case hy14 => (intro w hSw; (try dsimp only at hSw); go_simp; try with_reducible rfl)
  (try simp only [Act.put, List.setIfInBounds_toArray, List.set_cons_zero, List.set_cons_succ])
  refine wpAnyH_take (i := 15) (oi := ({ dst := none, op := Op.move (Operand.const (Value.bool true)), type := 0, pos := "message.go:200", after := #[{ on := 14, ground := Ground.data }, { on := 12, ground := Ground.data }, { on := 12, ground := Ground.chain }, { on := 0, ground := Ground.phase }, { on := 1, ground := Ground.phase }, { on := 2, ground := Ground.phase }, { on := 3, ground := Ground.phase }, { on := 4, ground := Ground.phase }, { on := 5, ground := Ground.phase }, { on := 6, ground := Ground.phase }, { on := 7, ground := Ground.phase }, { on := 8, ground := Ground.phase }, { on := 9, ground := Ground.phase }, { on := 10, ground := Ground.phase }, { on := 11, ground := Ground.phase }, { on := 12, ground := Ground.phase }], guard := none } : Oper)) (v := ?v15) rfl (by kernel_rfl) (by kernel_rfl) (by kernel_rfl) (fun _ _ _ h => h) (Or.inl ⟨by rfl, ?hy15⟩) (by assumption) ?rest15
  case hy15 => (intro w hSw; (try dsimp only at hSw); go_simp; try with_reducible rfl)
  (try simp only [Act.put, List.setIfInBounds_toArray, List.set_cons_zero, List.set_cons_succ])
  refine wpAnyH_done (by kernel_rfl) ?_ _
  simp only [afterLast]
  refine wpOp_step (i := 15) (o := ({ dst := none, op := Op.store 35 (Operand.tmp 71) (Operand.tmp 69), type := 0, pos := "message.go:200", after := #[{ on := 14, ground := Ground.data }, { on := 12, ground := Ground.data }, { on := 12, ground := Ground.chain }, { on := 0, ground := Ground.phase }, { on := 1, ground := Ground.phase }, { on := 2, ground := Ground.phase }, { on := 3, ground := Ground.phase }, { on := 4, ground := Ground.phase }, { on := 5, ground := Ground.phase }, { on := 6, ground := Ground.phase }, { on := 7, ground := Ground.phase }, { on := 8, ground := Ground.phase }, { on := 9, ground := Ground.phase }, { on := 10, ground := Ground.phase }, { on := 11, ground := Ground.phase }, { on := 12, ground := Ground.phase }], guard := none } : Oper)) rfl (fun K hK => ?_)
  go_simp
  exact hK _ _ (NoPanic.normal (HQ.out _ _ _ _ _ _ _ _ _ _ _ _ _ _ _ _ _ rfl rfl (U8s.appended UA1.out (MS.out.grow gA.out).box (MS.out.grow gA.out).row HG4.out) (app_post MS.out gA.out HO4.out HG4.out)))
end Go.Proofs.YbulkaptmDoor
