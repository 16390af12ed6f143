/-
  cea: the Result-Code of a success.
-/
import Derived.Test.YbulkaptmDoorSrv
namespace Go.Proofs.YbulkaptmDoor
open Go.RowKit
set_option linter.unusedVariables false
set_option linter.unusedSimpArgs false
set_option maxRecDepth 100000

set_option maxHeartbeats 3200000 in
theorem cea_r4 {Q : Exit → Act → World → Prop} {ds : List Deferred} {t0 t1 t2 t3 t4 t5 t6 t8 t9 t10 t11 t12 t13 t14 t15 t16 t17 t18 t19 t20 t21 t22 t23 t24 t25 t26 t27 t28 t29 t30 t31 t32 t33 t34 t35 t36 t37 t38 t39 t40 t41 t42 t43 t44 t45 t46 t47 t48 t49 t50 t51 t52 t53 t54 t55 t56 t57 t58 t59 t60 t61 t62 t63 t64 t65 t66 t67 t68 t69 t70 t71 t72 t73 t74 t75 t76 t77 t78 t79 t80 t81 t82 t83 t84 : Value} {w : World} {B p : Nat} {fl cmd app hop ete : Int} {sv : Value} {avs : List Av} {nm : Nat → ByteArray} {z : Addr} 
    (hms : MsgSt w B p fl cmd app hop ete sv avs) (hG : Globs w nm z) (hB : 17 ≤ B) (hn : avs.length ≤ 100000) 
    (hQ : ∀ (s22 s23 s24 s25 s26 s27 s28 s29 s30 s31 s32 : Value) (w' : World) (a1 : Av), a1.code = 268 → a1.dl = 4 → U8s w' a1.da 4 (be32 2001) → AppPost w B p fl cmd app hop ete avs [a1] w' → Q .normal { tmps := #[t0, t1, t2, t3, t4, t5, t6, (.pointer (some ⟨p, 0, none⟩)), t8, t9, t10, t11, t12, t13, t14, t15, t16, t17, t18, t19, t20, t21, s22, s23, s24, s25, s26, s27, s28, s29, s30, s31, s32, t33, t34, t35, t36, t37, t38, t39, t40, t41, t42, t43, t44, t45, t46, t47, t48, t49, t50, t51, t52, t53, t54, t55, t56, t57, t58, t59, t60, t61, t62, t63, t64, t65, t66, t67, t68, t69, t70, t71, t72, t73, t74, t75, t76, t77, t78, t79, t80, t81, t82, t83, t84], defers := ds } w') :
    (Code.region 4 #[{ dst := some 22, op := Op.move (Operand.tmp 7), type := 30, pos := "conn.go:234", after := #[], guard := none }, { dst := some 23, op := Op.move (Operand.tmp 7), type := 30, pos := "conn.go:234", after := #[], guard := none }, { dst := some 24, op := Op.nilCheck (Operand.tmp 23), type := 0, pos := "conn.go:234", after := #[{ on := 1, ground := Ground.data }], guard := none }, { dst := some 25, op := Op.fieldAddr 37 (Operand.tmp 24) 5, type := 0, pos := "conn.go:234", after := #[{ on := 2, ground := Ground.data }], guard := none }, { dst := some 26, op := Op.load 35 (Operand.tmp 25), type := 35, pos := "conn.go:234", after := #[{ on := 3, ground := Ground.data }], guard := none }, { dst := some 27, op := Op.load 122 (Operand.global 0), type := 122, pos := "conn.go:234", after := #[], guard := none }, { dst := some 28, op := Op.call { callee := Callee.value (Operand.func 17), args := #[Operand.tmp 27, Operand.const (Value.int IntKind.u32 2001)], argTypes := #[122, 22] }, type := 41, pos := "conn.go:234", after := #[{ on := 5, ground := Ground.data }], guard := none }, { dst := some 29, op := Op.buildSlice 35 1 #[(0, Operand.tmp 28)], type := 35, pos := "conn.go:234", after := #[{ on := 6, ground := Ground.data }], guard := none }, { dst := some 30, op := Op.call { callee := Callee.builtin Builtin.append, args := #[Operand.tmp 26, Operand.tmp 29], argTypes := #[35, 35] }, type := 35, pos := "conn.go:234", after := #[{ on := 4, ground := Ground.data }, { on := 7, ground := Ground.data }, { on := 6, ground := Ground.chain }], guard := none }, { dst := some 31, op := Op.nilCheck (Operand.tmp 22), type := 0, pos := "conn.go:234", after := #[{ on := 0, ground := Ground.data }, { on := 0, ground := Ground.phase }, { on := 1, ground := Ground.phase }, { on := 2, ground := Ground.phase }, { on := 3, ground := Ground.phase }, { on := 4, ground := Ground.phase }, { on := 5, ground := Ground.phase }, { on := 6, ground := Ground.phase }, { on := 7, ground := Ground.phase }, { on := 8, ground := Ground.phase }], guard := none }, { dst := some 32, op := Op.fieldAddr 37 (Operand.tmp 31) 5, type := 0, pos := "conn.go:234", after := #[{ on := 9, ground := Ground.data }, { on := 0, ground := Ground.phase }, { on := 1, ground := Ground.phase }, { on := 2, ground := Ground.phase }, { on := 3, ground := Ground.phase }, { on := 4, ground := Ground.phase }, { on := 5, ground := Ground.phase }, { on := 6, ground := Ground.phase }, { on := 7, ground := Ground.phase }, { on := 8, ground := Ground.phase }], guard := none }, { dst := none, op := Op.store 35 (Operand.tmp 32) (Operand.tmp 30), type := 0, pos := "conn.go:234", after := #[{ on := 10, ground := Ground.data }, { on := 8, ground := Ground.data }, { on := 8, ground := Ground.chain }, { on := 0, ground := Ground.phase }, { on := 1, ground := Ground.phase }, { on := 2, ground := Ground.phase }, { on := 3, ground := Ground.phase }, { on := 4, ground := Ground.phase }, { on := 5, ground := Ground.phase }, { on := 6, ground := Ground.phase }, { on := 7, ground := Ground.phase }, { on := 8, ground := Ground.phase }], guard := none }] true).wp Ybad.prog Q { tmps := #[t0, t1, t2, t3, t4, t5, t6, (.pointer (some ⟨p, 0, none⟩)), t8, t9, t10, t11, t12, t13, t14, t15, t16, t17, t18, t19, t20, t21, t22, t23, t24, t25, t26, t27, t28, t29, t30, t31, t32, t33, t34, t35, t36, t37, t38, t39, t40, t41, t42, t43, t44, t45, t46, t47, t48, t49, t50, t51, t52, t53, t54, t55, t56, t57, t58, t59, t60, t61, t62, t63, t64, t65, t66, t67, t68, t69, t70, t71, t72, t73, t74, t75, t76, t77, t78, t79, t80, t81, t82, t83, t84], defers := ds } w := by
  obtain ⟨i0, hi, hz0, hz1, hz2⟩ := info_parts info41
  have MS : Hid (MsgSt w B p fl cmd app hop ete sv avs) := hms
  have GL : Hid (Globs w nm z) := hG
  have HNN : Hid (avs.length ≤ 100000) := hn
  have HS : Hid (∀ w', w.grownBy w' sv.ownBlock → (fun w' => w'.cell? ⟨p, 5, none⟩ = some sv ∧ w'.cell? ⟨0, 0, none⟩ = some (.string (nm 0)) ∧ w'.cell? ⟨0, 1, none⟩ = some (.int .u32 268) ∧ w'.cell? ⟨0, 2, none⟩ = some (.int .u32 0) ∧ w'.cell? ⟨0, 3, none⟩ = some (.bool true) ∧ w'.cell? ⟨0, 4, none⟩ = some (.int .u8 4)) w') := by
    show ∀ w', w.grownBy w' sv.ownBlock → (fun w' => w'.cell? ⟨p, 5, none⟩ = some sv ∧ w'.cell? ⟨0, 0, none⟩ = some (.string (nm 0)) ∧ w'.cell? ⟨0, 1, none⟩ = some (.int .u32 268) ∧ w'.cell? ⟨0, 2, none⟩ = some (.int .u32 0) ∧ w'.cell? ⟨0, 3, none⟩ = some (.bool true) ∧ w'.cell? ⟨0, 4, none⟩ = some (.int .u8 4)) w'
    intro w' hg
    have g17 : Below 17 w w' := gbelow hg (Nat.le_trans hB MS.out.size) (fun k hk => Nat.le_trans hB (MS.out.row.lt _ hk).1)
    have gg := GL.out.below g17

    exact ⟨cellOf (gblock hg MS.out.box (own_ne41 MS.out.row MS.out.box (by decide))), gg.g0.c0, gg.g0.c1, gg.g0.c2, gg.g0.c3, gg.g0.c4⟩
  have HQ : Hid (∀ (s22 s23 s24 s25 s26 s27 s28 s29 s30 s31 s32 : Value) (w' : World) (a1 : Av), a1.code = 268 → a1.dl = 4 → U8s w' a1.da 4 (be32 2001) → AppPost w B p fl cmd app hop ete avs [a1] w' → Q .normal { tmps := #[t0, t1, t2, t3, t4, t5, t6, (.pointer (some ⟨p, 0, none⟩)), t8, t9, t10, t11, t12, t13, t14, t15, t16, t17, t18, t19, t20, t21, s22, s23, s24, s25, s26, s27, s28, s29, s30, s31, s32, t33, t34, t35, t36, t37, t38, t39, t40, t41, t42, t43, t44, t45, t46, t47, t48, t49, t50, t51, t52, t53, t54, t55, t56, t57, t58, t59, t60, t61, t62, t63, t64, t65, t66, t67, t68, t69, t70, t71, t72, t73, t74, t75, t76, t77, t78, t79, t80, t81, t82, t83, t84], defers := ds } w') := hQ
  clear hms hG hQ hn
  refine wp_region_noPanic ?_
  refine wp_region_last (S := (fun w' => w'.cell? ⟨p, 5, none⟩ = some sv ∧ w'.cell? ⟨0, 0, none⟩ = some (.string (nm 0)) ∧ w'.cell? ⟨0, 1, none⟩ = some (.int .u32 268) ∧ w'.cell? ⟨0, 2, none⟩ = some (.int .u32 0) ∧ w'.cell? ⟨0, 3, none⟩ = some (.bool true) ∧ w'.cell? ⟨0, 4, none⟩ = some (.int .u8 4))) 11 ({ dst := none, op := Op.store 35 (Operand.tmp 32) (Operand.tmp 30), type := 0, pos := "conn.go:234", after := #[{ on := 10, ground := Ground.data }, { on := 8, ground := Ground.data }, { on := 8, ground := Ground.chain }, { on := 0, ground := Ground.phase }, { on := 1, ground := Ground.phase }, { on := 2, ground := Ground.phase }, { on := 3, ground := Ground.phase }, { on := 4, ground := Ground.phase }, { on := 5, ground := Ground.phase }, { on := 6, ground := Ground.phase }, { on := 7, ground := Ground.phase }, { on := 8, ground := Ground.phase }], guard := none }) (by kernel_rfl) rfl (by kernel_rfl) ?hS (fun hHeld => ?_)
  case hS => exact HS.out _ (gweak (gdrew _ _) _)
  simp only [List.setIfInBounds_toArray, List.set_cons_zero, List.set_cons_succ, idle]
  refine wpAnyH_take (i := 0) (oi := ({ dst := some 22, op := Op.move (Operand.tmp 7), type := 30, pos := "conn.go:234", after := #[], guard := none } : Oper)) (v := ?v0) rfl (by kernel_rfl) (by kernel_rfl) (by kernel_rfl) (fun _ _ _ h => h) (Or.inl ⟨by rfl, ?hy0⟩) (by assumption) ?rest0
  case hy0 => (intro w hSw; (try dsimp only at hSw); go_simp; try (first | with_reducible rfl | decide))
  (try simp only [Act.put, List.setIfInBounds_toArray, List.set_cons_zero, List.set_cons_succ])
  refine wpAnyH_take (i := 1) (oi := ({ dst := some 23, op := Op.move (Operand.tmp 7), type := 30, pos := "conn.go:234", after := #[], guard := none } : Oper)) (v := ?v1) rfl (by kernel_rfl) (by kernel_rfl) (by kernel_rfl) (fun _ _ _ h => h) (Or.inl ⟨by rfl, ?hy1⟩) (by assumption) ?rest1
  case hy1 => (intro w hSw; (try dsimp only at hSw); go_simp; try (first | with_reducible rfl | decide))
  (try simp only [Act.put, List.setIfInBounds_toArray, List.set_cons_zero, List.set_cons_succ])
  refine wpAnyH_take (i := 2) (oi := ({ dst := some 24, op := Op.nilCheck (Operand.tmp 23), type := 0, pos := "conn.go:234", after := #[{ on := 1, ground := Ground.data }], guard := none } : Oper)) (v := ?v2) rfl (by kernel_rfl) (by kernel_rfl) (by kernel_rfl) (fun _ _ _ h => h) (Or.inl ⟨by rfl, ?hy2⟩) (by assumption) ?rest2
  case hy2 => (intro w hSw; (try dsimp only at hSw); go_simp; try (first | with_reducible rfl | decide))
  (try simp only [Act.put, List.setIfInBounds_toArray, List.set_cons_zero, List.set_cons_succ])
  refine wpAnyH_take (i := 3) (oi := ({ dst := some 25, op := Op.fieldAddr 37 (Operand.tmp 24) 5, type := 0, pos := "conn.go:234", after := #[{ on := 2, ground := Ground.data }], guard := none } : Oper)) (v := ?v3) rfl (by kernel_rfl) (by kernel_rfl) (by kernel_rfl) (fun _ _ _ h => h) (Or.inl ⟨by rfl, ?hy3⟩) (by assumption) ?rest3
  case hy3 => (intro w hSw; (try dsimp only at hSw); go_simp; try (first | with_reducible rfl | decide))
  (try simp only [Act.put, List.setIfInBounds_toArray, List.set_cons_zero, List.set_cons_succ])
  refine wpAnyH_take (i := 4) (oi := ({ dst := some 26, op := Op.load 35 (Operand.tmp 25), type := 35, pos := "conn.go:234", after := #[{ on := 3, ground := Ground.data }], guard := none } : Oper)) (v := ?v4) rfl (by kernel_rfl) (by kernel_rfl) (by kernel_rfl) (fun _ _ _ h => h) (Or.inl ⟨by rfl, ?hy4⟩) (by assumption) ?rest4
  case hy4 => (intro w hSw; (try dsimp only at hSw); go_simp; try (first | with_reducible rfl | decide))
  (try simp only [Act.put, List.setIfInBounds_toArray, List.set_cons_zero, List.set_cons_succ])
  refine wpAnyH_take (i := 5) (oi := ({ dst := some 27, op := Op.load 122 (Operand.global 0), type := 122, pos := "conn.go:234", after := #[], guard := none } : Oper)) (v := ?v5) rfl (by kernel_rfl) (by kernel_rfl) (by kernel_rfl) (fun _ _ _ h => h) (Or.inl ⟨by rfl, ?hy5⟩) (by assumption) ?rest5
  case hy5 => (intro w hSw; (try dsimp only at hSw); go_simp; try (first | with_reducible rfl | decide))
  (try simp only [Act.put, List.setIfInBounds_toArray, List.set_cons_zero, List.set_cons_succ])
  refine wpAnyH_ready (rs := [6]) (by kernel_rfl) (by simp) ?_
  refine AllReadyH.cons (o := ({ dst := some 28, op := Op.call { callee := Callee.value (Operand.func 17), args := #[Operand.tmp 27, Operand.const (Value.int IntKind.u32 2001)], argTypes := #[122, 22] }, type := 41, pos := "conn.go:234", after := #[{ on := 5, ground := Ground.data }], guard := none } : Oper)) rfl (fun K hK => ?_) AllReadyH.nil
  go_simp
  refine (attrU32 (nm 0) 268 0 4 true 2001 (by decide) (by decide) _).mono ?_
  rintro e w1 ⟨⟨da1, dc1, rfl, hu1⟩, hg1⟩
  have G1 : Hid (w.grownBy w1 none) := gtrans (gdrew _ _) hg1
  have U1 : Hid (U8s w1 da1 4 (be32 2001)) := hu1
  clear hg1 hu1
  refine hK.out _ _ ?hS6 (fun hHeld2 => ?_)
  case hS6 => exact HS.out _ (gweak G1.out _)
  clear hK K hHeld
  have hHeld := hHeld2
  clear hHeld2
  (try simp only [Act.put, List.setIfInBounds_toArray, List.set_cons_zero, List.set_cons_succ])
  refine wpAnyH_ready (rs := [7]) (by kernel_rfl) (by simp) ?_
  refine AllReadyH.cons (o := ({ dst := some 29, op := Op.buildSlice 35 1 #[(0, Operand.tmp 28)], type := 35, pos := "conn.go:234", after := #[{ on := 6, ground := Ground.data }], guard := none } : Oper)) rfl (fun K hK => ?_) AllReadyH.nil
  go_simp
  obtain ⟨wA, hwA⟩ : ∃ wA, wA = (w1.alloc (.cells (flat [(⟨268, (aflags 0 true), 0, da1, 4, dc1⟩ : Av)]).toArray 41)) := ⟨_, rfl⟩
  have gA : Hid (w.grownBy wA none) := by show w.grownBy wA none; rw [hwA]; exact gtrans G1.out (World.grownBy_alloc _ _ _)
  have HN : Hid (∀ j u, (flat [(⟨268, (aflags 0 true), 0, da1, 4, dc1⟩ : Av)])[j]? = some u → wA.cell? ((⟨w1.heap.size, 0, none⟩ : Addr).add j) = some u) := by
    show ∀ j u, (flat [(⟨268, (aflags 0 true), 0, da1, 4, dc1⟩ : Av)])[j]? = some u → wA.cell? ((⟨w1.heap.size, 0, none⟩ : Addr).add j) = some u
    rw [hwA]
    exact World.news_of_block (heap_alloc_new _ _)
  have eA : (w1.alloc (.cells #[.int .u32 268, .int .u8 (aflags 0 true), .int .u32 0, .slice da1 4 dc1] 41)) = wA := hwA.symm
  rw [eA]
  have UA1 : Hid (U8s wA da1 4 (be32 2001)) := by show U8s wA da1 4 (be32 2001); rw [hwA]; exact U1.out.grow (World.grownBy_alloc _ _ _)
  clear hwA eA
  refine hK.out _ _ ?hS7 (fun hHeld2 => ?_)
  case hS7 => exact HS.out _ (gweak gA.out _)
  clear hK K hHeld
  have hHeld := hHeld2
  clear hHeld2
  (try simp only [Act.put, List.setIfInBounds_toArray, List.set_cons_zero, List.set_cons_succ])
  refine wpAnyH_ready (rs := [8]) (by kernel_rfl) (by simp) ?_
  refine AllReadyH.cons (o := ({ dst := some 30, op := Op.call { callee := Callee.builtin Builtin.append, args := #[Operand.tmp 26, Operand.tmp 29], argTypes := #[35, 35] }, type := 35, pos := "conn.go:234", after := #[{ on := 4, ground := Ground.data }, { on := 7, ground := Ground.data }, { on := 6, ground := Ground.chain }], guard := none } : Oper)) rfl (fun K hK => ?_) AllReadyH.nil
  have HX : Hid (avs.length + 1 ≤ maxLen ∧ B ≤ wA.heap.size ∧ (avs.length + 1) * 40 ≤ 140737488355328) := ⟨by have := HNN.out; unfold maxLen; omega, Nat.le_trans MS.out.size gA.out.size, by have := HNN.out; omega⟩
  refine step_append_lies _ rfl (.tmp 26) (.tmp 29) 35 rfl B 41 i0 (.agg #[.int .u32 0, .int .u8 0, .int .u32 0, .slice none 0 0]) 4 40 Ybad.underlying35 hi hz0 hz1 hz2 rfl (by decide) sv avs.length (flat avs) (by simp [Act.eval, Act.put]) (MS.out.grow gA.out).row ⟨w1.heap.size, 0, none⟩ 1 1 (flat [(⟨268, (aflags 0 true), 0, da1, 4, dc1⟩ : Av)]) (by simp [Act.eval, Act.put]) rfl HN.out (flat_one _) (by decide) HX.out.1 HX.out.2.2 HX.out.2.1 _ rfl ?_
  intro gz capz wz hown4 hg4 _ _
  have HO4 : Hid (wz.ownsRow B 41 4 (.slice (some ⟨gz, 0, none⟩) (avs.length + 1) capz) (avs.length + 1) (flat avs ++ flat [(⟨268, (aflags 0 true), 0, da1, 4, dc1⟩ : Av)])) := hown4
  have HG4 : Hid (wA.grownBy wz sv.ownBlock) := hg4
  have P4 : Hid (wz.heap[p]? = _) := gblock hg4 (MS.out.grow gA.out).box (own_ne41 (MS.out.grow gA.out).row (MS.out.grow gA.out).box (by decide))
  have q4 : wz.cell? ⟨p, 5, none⟩ = some sv := cellOf P4.out
  have z4 : wz.frozen? ⟨p, 5, none⟩ = false := frozenOf P4.out
  clear hown4 hg4
  refine hK.out _ _ ?hS8 (fun hHeld2 => ?_)
  case hS8 => exact HS.out _ (gtrans (gweak gA.out _) HG4.out)
  clear hK K hHeld
  have hHeld := hHeld2
  clear hHeld2
  (try simp only [Act.put, List.setIfInBounds_toArray, List.set_cons_zero, List.set_cons_succ])
  refine wpAnyH_take (i := 9) (oi := ({ dst := some 31, op := Op.nilCheck (Operand.tmp 22), type := 0, pos := "conn.go:234", after := #[{ on := 0, ground := Ground.data }, { on := 0, ground := Ground.phase }, { on := 1, ground := Ground.phase }, { on := 2, ground := Ground.phase }, { on := 3, ground := Ground.phase }, { on := 4, ground := Ground.phase }, { on := 5, ground := Ground.phase }, { on := 6, ground := Ground.phase }, { on := 7, ground := Ground.phase }, { on := 8, ground := Ground.phase }], guard := none } : Oper)) (v := ?v9) rfl (by kernel_rfl) (by kernel_rfl) (by kernel_rfl) (fun _ _ _ h => h) (Or.inl ⟨by rfl, ?hy9⟩) (by assumption) ?rest9
  case hy9 => (intro w hSw; (try dsimp only at hSw); go_simp; try (first | with_reducible rfl | decide))
  (try simp only [Act.put, List.setIfInBounds_toArray, List.set_cons_zero, List.set_cons_succ])
  refine wpAnyH_take (i := 10) (oi := ({ dst := some 32, op := Op.fieldAddr 37 (Operand.tmp 31) 5, type := 0, pos := "conn.go:234", after := #[{ on := 9, ground := Ground.data }, { on := 0, ground := Ground.phase }, { on := 1, ground := Ground.phase }, { on := 2, ground := Ground.phase }, { on := 3, ground := Ground.phase }, { on := 4, ground := Ground.phase }, { on := 5, ground := Ground.phase }, { on := 6, ground := Ground.phase }, { on := 7, ground := Ground.phase }, { on := 8, ground := Ground.phase }], guard := none } : Oper)) (v := ?v10) rfl (by kernel_rfl) (by kernel_rfl) (by kernel_rfl) (fun _ _ _ h => h) (Or.inl ⟨by rfl, ?hy10⟩) (by assumption) ?rest10
  case hy10 => (intro w hSw; (try dsimp only at hSw); go_simp; try (first | with_reducible rfl | decide))
  (try simp only [Act.put, List.setIfInBounds_toArray, List.set_cons_zero, List.set_cons_succ])
  refine wpAnyH_take (i := 11) (oi := ({ dst := none, op := Op.move (Operand.const (Value.bool true)), type := 0, pos := "conn.go:234", after := #[{ on := 10, ground := Ground.data }, { on := 8, ground := Ground.data }, { on := 8, ground := Ground.chain }, { on := 0, ground := Ground.phase }, { on := 1, ground := Ground.phase }, { on := 2, ground := Ground.phase }, { on := 3, ground := Ground.phase }, { on := 4, ground := Ground.phase }, { on := 5, ground := Ground.phase }, { on := 6, ground := Ground.phase }, { on := 7, ground := Ground.phase }, { on := 8, ground := Ground.phase }], guard := none } : Oper)) (v := ?v11) rfl (by kernel_rfl) (by kernel_rfl) (by kernel_rfl) (fun _ _ _ h => h) (Or.inl ⟨by rfl, ?hy11⟩) (by assumption) ?rest11
  case hy11 => (intro w hSw; (try dsimp only at hSw); go_simp; try (first | with_reducible rfl | decide))
  (try simp only [Act.put, List.setIfInBounds_toArray, List.set_cons_zero, List.set_cons_succ])
  refine wpAnyH_done (by kernel_rfl) ?_ _
  simp only [afterLast]
  refine wpOp_step (i := 11) (o := ({ dst := none, op := Op.store 35 (Operand.tmp 32) (Operand.tmp 30), type := 0, pos := "conn.go:234", after := #[{ on := 10, ground := Ground.data }, { on := 8, ground := Ground.data }, { on := 8, ground := Ground.chain }, { on := 0, ground := Ground.phase }, { on := 1, ground := Ground.phase }, { on := 2, ground := Ground.phase }, { on := 3, ground := Ground.phase }, { on := 4, ground := Ground.phase }, { on := 5, ground := Ground.phase }, { on := 6, ground := Ground.phase }, { on := 7, ground := Ground.phase }, { on := 8, ground := Ground.phase }], guard := none } : Oper)) rfl (fun K hK => ?_)
  go_simp
  exact hK _ _ (NoPanic.normal (HQ.out _ _ _ _ _ _ _ _ _ _ _ _ _ rfl rfl (U8s.appended UA1.out (MS.out.grow gA.out).box (MS.out.grow gA.out).row HG4.out) (app_post MS.out gA.out HO4.out HG4.out)))
end Go.Proofs.YbulkaptmDoor
