/-
  applicationAVPs: a Vendor-Specific-Application-Id.
-/
import Derived.Test.YbulkaptmDoorSpec
namespace Go.Proofs.YbulkaptmDoor
open Go.RowKit Go.Maps
set_option linter.unusedVariables false
set_option linter.unusedSimpArgs false
set_option maxRecDepth 100000

set_option maxHeartbeats 6400000 in
theorem apps_r17 {Q : Exit → Act → World → Prop} {ds : List Deferred} {t0 t1 t2 t4 t5 t6 t7 t9 t10 t11 t12 t13 t14 t15 t16 t17 t18 t19 t20 t21 t22 t23 t24 t25 t26 t27 t28 t29 t30 t31 t32 t33 t34 t35 t36 t37 t38 t39 t40 t41 t42 t43 t44 t45 t46 t47 t48 t49 t50 t51 t52 t53 t54 t55 t56 t57 t58 t59 t60 t61 t62 t63 t64 t65 t66 t67 t68 t69 t70 t71 t72 t73 t74 t75 t76 t77 t78 t79 t80 t81 : Value} {w : World} {b B : Nat} {id vd : Int} {sv : Value} {avs : List Av} {nm : Nat → ByteArray} {z : Addr}
    (hrow : w.ownsRow B 41 4 sv avs.length (flat avs)) (hG : Globs w nm z) (hn : avs.length ≤ 100000) (hB : B ≤ w.heap.size) (hB17 : 17 ≤ B) (hb : w.heap[b]? = some (.cells #[.int .u32 id, .int .u32 vd] 55 (0, 0))) (hv : (0 ≤ id ∧ id < 4294967296) ∧ (0 ≤ vd ∧ vd < 4294967296))
    (hQ : ∀ (s66 s67 s68 s69 s70 s71 s72 s73 s74 s75 s76 s77 s78 s79 : Value) (sv' : Value) (w' : World) (a1 : Av), a1.code = 260 → w'.ownsRow B 41 4 sv' (avs ++ [a1]).length (flat (avs ++ [a1])) → w.grownBy w' sv.ownBlock → Q .normal { tmps := #[t0, t1, t2, sv', t4, t5, t6, t7, (.pointer (some ⟨b, 0, none⟩)), t9, t10, t11, t12, t13, t14, t15, t16, t17, t18, t19, t20, t21, t22, t23, t24, t25, t26, t27, t28, t29, t30, t31, t32, t33, t34, t35, t36, t37, t38, t39, t40, t41, t42, t43, t44, t45, t46, t47, t48, t49, t50, t51, t52, t53, t54, t55, t56, t57, t58, t59, t60, t61, t62, t63, t64, t65, s66, s67, s68, s69, s70, s71, s72, s73, s74, s75, s76, s77, s78, s79, t80, t81], defers := ds } w') :
    (Code.region 17 #[{ dst := some 66, op := Op.move (Operand.tmp 3), type := 35, pos := "server.go:366", after := #[], guard := none }, { dst := some 67, op := Op.load 122 (Operand.global 15), type := 122, pos := "server.go:366", after := #[], guard := none }, { dst := some 68, op := Op.load 122 (Operand.global 2), type := 122, pos := "server.go:366", after := #[], guard := none }, { dst := some 69, op := Op.fieldAddr 55 (Operand.tmp 8) 1, type := 0, pos := "server.go:366", after := #[], guard := none }, { dst := some 70, op := Op.load 22 (Operand.tmp 69), type := 22, pos := "server.go:366", after := #[{ on := 3, ground := Ground.data }], guard := none }, { dst := some 71, op := Op.call { callee := Callee.value (Operand.func 17), args := #[Operand.tmp 68, Operand.tmp 70], argTypes := #[122, 22] }, type := 41, pos := "server.go:367", after := #[{ on := 2, ground := Ground.data }, { on := 4, ground := Ground.data }], guard := none }, { dst := some 72, op := Op.load 122 (Operand.global 14), type := 122, pos := "server.go:366", after := #[], guard := none }, { dst := some 73, op := Op.fieldAddr 55 (Operand.tmp 8) 0, type := 0, pos := "server.go:366", after := #[], guard := none }, { dst := some 74, op := Op.load 22 (Operand.tmp 73), type := 22, pos := "server.go:366", after := #[{ on := 7, ground := Ground.data }], guard := none }, { dst := some 75, op := Op.call { callee := Callee.value (Operand.func 17), args := #[Operand.tmp 72, Operand.tmp 74], argTypes := #[122, 22] }, type := 41, pos := "server.go:368", after := #[{ on := 6, ground := Ground.data }, { on := 8, ground := Ground.data }, { on := 5, ground := Ground.chain }], guard := none }, { dst := some 76, op := Op.buildSlice 35 2 #[(0, Operand.tmp 71), (1, Operand.tmp 75)], type := 35, pos := "server.go:366", after := #[{ on := 5, ground := Ground.data }, { on := 9, ground := Ground.data }], guard := none }, { dst := some 77, op := Op.call { callee := Callee.value (Operand.func 25), args := #[Operand.tmp 67, Operand.tmp 76], argTypes := #[122, 35] }, type := 41, pos := "server.go:366", after := #[{ on := 1, ground := Ground.data }, { on := 10, ground := Ground.data }, { on := 9, ground := Ground.chain }], guard := none }, { dst := some 78, op := Op.buildSlice 35 1 #[(0, Operand.tmp 77)], type := 35, pos := "server.go:366", after := #[{ on := 11, ground := Ground.data }], guard := none }, { dst := some 79, op := Op.call { callee := Callee.builtin Builtin.append, args := #[Operand.tmp 66, Operand.tmp 78], argTypes := #[35, 35] }, type := 35, pos := "server.go:366", after := #[{ on := 0, ground := Ground.data }, { on := 12, ground := Ground.data }, { on := 11, ground := Ground.chain }], guard := none }, { dst := some 3, op := Op.assign (Operand.tmp 79), type := 35, pos := "server.go:366", after := #[{ on := 13, ground := Ground.data }, { on := 13, ground := Ground.chain }, { on := 0, ground := Ground.phase }, { on := 1, ground := Ground.phase }, { on := 2, ground := Ground.phase }, { on := 3, ground := Ground.phase }, { on := 4, ground := Ground.phase }, { on := 5, ground := Ground.phase }, { on := 6, ground := Ground.phase }, { on := 7, ground := Ground.phase }, { on := 8, ground := Ground.phase }, { on := 9, ground := Ground.phase }, { on := 10, ground := Ground.phase }, { on := 11, ground := Ground.phase }, { on := 12, ground := Ground.phase }, { on := 13, ground := Ground.phase }], guard := none }] true).wp Ybad.prog Q { tmps := #[t0, t1, t2, sv, t4, t5, t6, t7, (.pointer (some ⟨b, 0, none⟩)), t9, t10, t11, t12, t13, t14, t15, t16, t17, t18, t19, t20, t21, t22, t23, t24, t25, t26, t27, t28, t29, t30, t31, t32, t33, t34, t35, t36, t37, t38, t39, t40, t41, t42, t43, t44, t45, t46, t47, t48, t49, t50, t51, t52, t53, t54, t55, t56, t57, t58, t59, t60, t61, t62, t63, t64, t65, t66, t67, t68, t69, t70, t71, t72, t73, t74, t75, t76, t77, t78, t79, t80, t81], defers := ds } w := by
  obtain ⟨j41, hj, hy0, hy1, hy2⟩ := info_parts info41
  have HR : Hid (w.ownsRow B 41 4 sv avs.length (flat avs)) := hrow
  have GL : Hid (Globs w nm z) := hG
  have HX : Hid (avs.length ≤ 100000 ∧ B ≤ w.heap.size ∧ 17 ≤ B) := ⟨hn, hB, hB17⟩
  have HB : Hid (w.heap[b]? = some (.cells #[.int .u32 id, .int .u32 vd] 55 (0, 0))) := hb
  have HV : Hid ((0 ≤ id ∧ id < 4294967296) ∧ (0 ≤ vd ∧ vd < 4294967296)) := hv
  have HS : Hid (∀ w', w.grownBy w' sv.ownBlock → (fun w' => w'.cell? ⟨15, 0, none⟩ = some (.string (nm 15)) ∧ w'.cell? ⟨15, 1, none⟩ = some (.int .u32 260) ∧ w'.cell? ⟨15, 2, none⟩ = some (.int .u32 0) ∧ w'.cell? ⟨15, 3, none⟩ = some (.bool true) ∧ w'.cell? ⟨15, 4, none⟩ = some (.int .u8 9) ∧ w'.cell? ⟨2, 0, none⟩ = some (.string (nm 2)) ∧ w'.cell? ⟨2, 1, none⟩ = some (.int .u32 266) ∧ w'.cell? ⟨2, 2, none⟩ = some (.int .u32 0) ∧ w'.cell? ⟨2, 3, none⟩ = some (.bool true) ∧ w'.cell? ⟨2, 4, none⟩ = some (.int .u8 4) ∧ w'.cell? ⟨14, 0, none⟩ = some (.string (nm 14)) ∧ w'.cell? ⟨14, 1, none⟩ = some (.int .u32 258) ∧ w'.cell? ⟨14, 2, none⟩ = some (.int .u32 0) ∧ w'.cell? ⟨14, 3, none⟩ = some (.bool true) ∧ w'.cell? ⟨14, 4, none⟩ = some (.int .u8 4) ∧ w'.cell? ⟨b, 0, none⟩ = some (.int .u32 id) ∧ w'.cell? ⟨b, 1, none⟩ = some (.int .u32 vd)) w') := by
    show ∀ w', w.grownBy w' sv.ownBlock → (fun w' => w'.cell? ⟨15, 0, none⟩ = some (.string (nm 15)) ∧ w'.cell? ⟨15, 1, none⟩ = some (.int .u32 260) ∧ w'.cell? ⟨15, 2, none⟩ = some (.int .u32 0) ∧ w'.cell? ⟨15, 3, none⟩ = some (.bool true) ∧ w'.cell? ⟨15, 4, none⟩ = some (.int .u8 9) ∧ w'.cell? ⟨2, 0, none⟩ = some (.string (nm 2)) ∧ w'.cell? ⟨2, 1, none⟩ = some (.int .u32 266) ∧ w'.cell? ⟨2, 2, none⟩ = some (.int .u32 0) ∧ w'.cell? ⟨2, 3, none⟩ = some (.bool true) ∧ w'.cell? ⟨2, 4, none⟩ = some (.int .u8 4) ∧ w'.cell? ⟨14, 0, none⟩ = some (.string (nm 14)) ∧ w'.cell? ⟨14, 1, none⟩ = some (.int .u32 258) ∧ w'.cell? ⟨14, 2, none⟩ = some (.int .u32 0) ∧ w'.cell? ⟨14, 3, none⟩ = some (.bool true) ∧ w'.cell? ⟨14, 4, none⟩ = some (.int .u8 4) ∧ w'.cell? ⟨b, 0, none⟩ = some (.int .u32 id) ∧ w'.cell? ⟨b, 1, none⟩ = some (.int .u32 vd)) w'
    intro w' hg
    have g17 : Below 17 w w' := gbelow hg (Nat.le_trans hB17 hB) (fun k hk => Nat.le_trans hB17 (HR.out.lt _ hk).1)
    have gg := GL.out.below g17
    have hbb := gblock hg HB.out (own_ne41 HR.out HB.out (by decide))
    exact ⟨gg.g15.c0, gg.g15.c1, gg.g15.c2, gg.g15.c3, gg.g15.c4, gg.g2.c0, gg.g2.c1, gg.g2.c2, gg.g2.c3, gg.g2.c4, gg.g14.c0, gg.g14.c1, gg.g14.c2, gg.g14.c3, gg.g14.c4, cellOf hbb, cellOf hbb⟩
  clear hrow hG hn hB hB17 hb hv
  have HQ : Hid (∀ (s66 s67 s68 s69 s70 s71 s72 s73 s74 s75 s76 s77 s78 s79 : Value) (sv' : Value) (w' : World) (a1 : Av), a1.code = 260 → w'.ownsRow B 41 4 sv' (avs ++ [a1]).length (flat (avs ++ [a1])) → w.grownBy w' sv.ownBlock → Q .normal { tmps := #[t0, t1, t2, sv', t4, t5, t6, t7, (.pointer (some ⟨b, 0, none⟩)), t9, t10, t11, t12, t13, t14, t15, t16, t17, t18, t19, t20, t21, t22, t23, t24, t25, t26, t27, t28, t29, t30, t31, t32, t33, t34, t35, t36, t37, t38, t39, t40, t41, t42, t43, t44, t45, t46, t47, t48, t49, t50, t51, t52, t53, t54, t55, t56, t57, t58, t59, t60, t61, t62, t63, t64, t65, s66, s67, s68, s69, s70, s71, s72, s73, s74, s75, s76, s77, s78, s79, t80, t81], defers := ds } w') := hQ
  clear hQ
  refine wp_region_noPanic ?_
  refine wp_region_held_drew (S := (fun w' => w'.cell? ⟨15, 0, none⟩ = some (.string (nm 15)) ∧ w'.cell? ⟨15, 1, none⟩ = some (.int .u32 260) ∧ w'.cell? ⟨15, 2, none⟩ = some (.int .u32 0) ∧ w'.cell? ⟨15, 3, none⟩ = some (.bool true) ∧ w'.cell? ⟨15, 4, none⟩ = some (.int .u8 9) ∧ w'.cell? ⟨2, 0, none⟩ = some (.string (nm 2)) ∧ w'.cell? ⟨2, 1, none⟩ = some (.int .u32 266) ∧ w'.cell? ⟨2, 2, none⟩ = some (.int .u32 0) ∧ w'.cell? ⟨2, 3, none⟩ = some (.bool true) ∧ w'.cell? ⟨2, 4, none⟩ = some (.int .u8 4) ∧ w'.cell? ⟨14, 0, none⟩ = some (.string (nm 14)) ∧ w'.cell? ⟨14, 1, none⟩ = some (.int .u32 258) ∧ w'.cell? ⟨14, 2, none⟩ = some (.int .u32 0) ∧ w'.cell? ⟨14, 3, none⟩ = some (.bool true) ∧ w'.cell? ⟨14, 4, none⟩ = some (.int .u8 4) ∧ w'.cell? ⟨b, 0, none⟩ = some (.int .u32 id) ∧ w'.cell? ⟨b, 1, none⟩ = some (.int .u32 vd))) (by kernel_rfl) ?hS (fun hHeld => ?_)
  case hS => exact HS.out _ (gdrew _ _)
  refine wpAnyH_take (i := 0) (oi := ({ dst := some 66, op := Op.move (Operand.tmp 3), type := 35, pos := "server.go:366", after := #[], guard := none } : Oper)) (v := ?v0) rfl (by kernel_rfl) (by kernel_rfl) (by kernel_rfl) (fun _ _ _ h => h) (Or.inl ⟨by rfl, ?hy0⟩) (by assumption) ?rest0
  case hy0 => (intro w hSw; (try dsimp only at hSw); go_simp; try (first | with_reducible rfl | decide))
  (try simp only [Act.put, List.setIfInBounds_toArray, List.set_cons_zero, List.set_cons_succ])
  refine wpAnyH_take (i := 1) (oi := ({ dst := some 67, op := Op.load 122 (Operand.global 15), type := 122, pos := "server.go:366", after := #[], guard := none } : Oper)) (v := ?v1) rfl (by kernel_rfl) (by kernel_rfl) (by kernel_rfl) (fun _ _ _ h => h) (Or.inl ⟨by rfl, ?hy1⟩) (by assumption) ?rest1
  case hy1 => (intro w hSw; (try dsimp only at hSw); go_simp; try (first | with_reducible rfl | decide))
  (try simp only [Act.put, List.setIfInBounds_toArray, List.set_cons_zero, List.set_cons_succ])
  refine wpAnyH_take (i := 2) (oi := ({ dst := some 68, op := Op.load 122 (Operand.global 2), type := 122, pos := "server.go:366", after := #[], guard := none } : Oper)) (v := ?v2) rfl (by kernel_rfl) (by kernel_rfl) (by kernel_rfl) (fun _ _ _ h => h) (Or.inl ⟨by rfl, ?hy2⟩) (by assumption) ?rest2
  case hy2 => (intro w hSw; (try dsimp only at hSw); go_simp; try (first | with_reducible rfl | decide))
  (try simp only [Act.put, List.setIfInBounds_toArray, List.set_cons_zero, List.set_cons_succ])
  refine wpAnyH_take (i := 3) (oi := ({ dst := some 69, op := Op.fieldAddr 55 (Operand.tmp 8) 1, type := 0, pos := "server.go:366", after := #[], guard := none } : Oper)) (v := ?v3) rfl (by kernel_rfl) (by kernel_rfl) (by kernel_rfl) (fun _ _ _ h => h) (Or.inl ⟨by rfl, ?hy3⟩) (by assumption) ?rest3
  case hy3 => (intro w hSw; (try dsimp only at hSw); go_simp; try (first | with_reducible rfl | decide))
  (try simp only [Act.put, List.setIfInBounds_toArray, List.set_cons_zero, List.set_cons_succ])
  refine wpAnyH_take (i := 4) (oi := ({ dst := some 70, op := Op.load 22 (Operand.tmp 69), type := 22, pos := "server.go:366", after := #[{ on := 3, ground := Ground.data }], guard := none } : Oper)) (v := ?v4) rfl (by kernel_rfl) (by kernel_rfl) (by kernel_rfl) (fun _ _ _ h => h) (Or.inl ⟨by rfl, ?hy4⟩) (by assumption) ?rest4
  case hy4 => (intro w hSw; (try dsimp only at hSw); go_simp; try (first | with_reducible rfl | decide))
  (try simp only [Act.put, List.setIfInBounds_toArray, List.set_cons_zero, List.set_cons_succ])
  refine wpAnyH_take (i := 6) (oi := ({ dst := some 72, op := Op.load 122 (Operand.global 14), type := 122, pos := "server.go:366", after := #[], guard := none } : Oper)) (v := ?v6) rfl (by kernel_rfl) (by kernel_rfl) (by kernel_rfl) (fun _ _ _ h => h) (Or.inl ⟨by rfl, ?hy6⟩) (by assumption) ?rest6
  case hy6 => (intro w hSw; (try dsimp only at hSw); go_simp; try (first | with_reducible rfl | decide))
  (try simp only [Act.put, List.setIfInBounds_toArray, List.set_cons_zero, List.set_cons_succ])
  refine wpAnyH_take (i := 7) (oi := ({ dst := some 73, op := Op.fieldAddr 55 (Operand.tmp 8) 0, type := 0, pos := "server.go:366", after := #[], guard := none } : Oper)) (v := ?v7) rfl (by kernel_rfl) (by kernel_rfl) (by kernel_rfl) (fun _ _ _ h => h) (Or.inl ⟨by rfl, ?hy7⟩) (by assumption) ?rest7
  case hy7 => (intro w hSw; (try dsimp only at hSw); go_simp; try (first | with_reducible rfl | decide))
  (try simp only [Act.put, List.setIfInBounds_toArray, List.set_cons_zero, List.set_cons_succ])
  refine wpAnyH_take (i := 8) (oi := ({ dst := some 74, op := Op.load 22 (Operand.tmp 73), type := 22, pos := "server.go:366", after := #[{ on := 7, ground := Ground.data }], guard := none } : Oper)) (v := ?v8) rfl (by kernel_rfl) (by kernel_rfl) (by kernel_rfl) (fun _ _ _ h => h) (Or.inl ⟨by rfl, ?hy8⟩) (by assumption) ?rest8
  case hy8 => (intro w hSw; (try dsimp only at hSw); go_simp; try (first | with_reducible rfl | decide))
  (try simp only [Act.put, List.setIfInBounds_toArray, List.set_cons_zero, List.set_cons_succ])
  refine wpAnyH_ready (rs := [5]) (by kernel_rfl) (by simp) ?_
  refine AllReadyH.cons (o := ({ dst := some 71, op := Op.call { callee := Callee.value (Operand.func 17), args := #[Operand.tmp 68, Operand.tmp 70], argTypes := #[122, 22] }, type := 41, pos := "server.go:367", after := #[{ on := 2, ground := Ground.data }, { on := 4, ground := Ground.data }], guard := none } : Oper)) rfl (fun K hK => ?_) AllReadyH.nil
  go_simp
  refine (attrU32 (nm 2) 266 0 4 true vd HV.out.2.1 HV.out.2.2 _).mono ?_
  rintro e w1 ⟨⟨da1, dc1, rfl, hu1⟩, hg1⟩
  have G1 : Hid (w.grownBy w1 none) := gtrans (gdrew _ _) hg1
  have U1 : Hid (U8s w1 da1 4 (be32 vd)) := hu1
  clear hg1 hu1
  refine hK.out _ _ ?hS5 (fun hHeld2 => ?_)
  case hS5 => exact HS.out _ (gweak G1.out _)
  clear hK K hHeld
  have hHeld := hHeld2
  clear hHeld2
  (try simp only [Act.put, List.setIfInBounds_toArray, List.set_cons_zero, List.set_cons_succ])
  refine wpAnyH_ready (rs := [9]) (by kernel_rfl) (by simp) ?_
  refine AllReadyH.cons (o := ({ dst := some 75, op := Op.call { callee := Callee.value (Operand.func 17), args := #[Operand.tmp 72, Operand.tmp 74], argTypes := #[122, 22] }, type := 41, pos := "server.go:368", after := #[{ on := 6, ground := Ground.data }, { on := 8, ground := Ground.data }, { on := 5, ground := Ground.chain }], guard := none } : Oper)) rfl (fun K hK => ?_) AllReadyH.nil
  go_simp
  refine (attrU32 (nm 14) 258 0 4 true id HV.out.1.1 HV.out.1.2 _).mono ?_
  rintro e w2 ⟨⟨da2, dc2, rfl, hu2⟩, hg2⟩
  have G2 : Hid (w.grownBy w2 none) := gtrans G1.out hg2
  have U2 : Hid (U8s w2 da2 4 (be32 id)) := hu2
  have U1 : Hid (U8s w2 da1 4 (be32 vd)) := U1.out.grow hg2
  clear hg2 hu2
  refine hK.out _ _ ?hS9 (fun hHeld2 => ?_)
  case hS9 => exact HS.out _ (gweak G2.out _)
  clear hK K hHeld
  have hHeld := hHeld2
  clear hHeld2
  (try simp only [Act.put, List.setIfInBounds_toArray, List.set_cons_zero, List.set_cons_succ])
  refine wpAnyH_ready (rs := [10]) (by kernel_rfl) (by simp) ?_
  refine AllReadyH.cons (o := ({ dst := some 76, op := Op.buildSlice 35 2 #[(0, Operand.tmp 71), (1, Operand.tmp 75)], type := 35, pos := "server.go:366", after := #[{ on := 5, ground := Ground.data }, { on := 9, ground := Ground.data }], guard := none } : Oper)) rfl (fun K hK => ?_) AllReadyH.nil
  go_simp
  obtain ⟨w3, hw3⟩ : ∃ w3, w3 = w2.alloc (.cells #[.int .u32 266, .int .u8 (aflags 0 true), .int .u32 0, .slice da1 4 dc1, .int .u32 258, .int .u8 (aflags 0 true), .int .u32 0, .slice da2 4 dc2] 41) := ⟨_, rfl⟩
  rw [← hw3]
  have G3 : Hid (w.grownBy w3 none) := by show w.grownBy w3 none; rw [hw3]; exact gtrans G2.out (World.grownBy_alloc _ _ _)
  have HAT : Hid (∀ i (h : i < [(⟨266, aflags 0 true, 0, da1, 4, dc1, be32 vd⟩ : Avp), (⟨258, aflags 0 true, 0, da2, 4, dc2, be32 id⟩ : Avp)].length), ([(⟨266, aflags 0 true, 0, da1, 4, dc1, be32 vd⟩ : Avp), (⟨258, aflags 0 true, 0, da2, 4, dc2, be32 id⟩ : Avp)][i]).At w3 w2.heap.size (0 + i * 4) ∧ ([(⟨266, aflags 0 true, 0, da1, 4, dc1, be32 vd⟩ : Avp), (⟨258, aflags 0 true, 0, da2, 4, dc2, be32 id⟩ : Avp)][i]).Fits w3) := by
    show ∀ i (h : i < [(⟨266, aflags 0 true, 0, da1, 4, dc1, be32 vd⟩ : Avp), (⟨258, aflags 0 true, 0, da2, 4, dc2, be32 id⟩ : Avp)].length), ([(⟨266, aflags 0 true, 0, da1, 4, dc1, be32 vd⟩ : Avp), (⟨258, aflags 0 true, 0, da2, 4, dc2, be32 id⟩ : Avp)][i]).At w3 w2.heap.size (0 + i * 4) ∧ ([(⟨266, aflags 0 true, 0, da1, 4, dc1, be32 vd⟩ : Avp), (⟨258, aflags 0 true, 0, da2, 4, dc2, be32 id⟩ : Avp)][i]).Fits w3
    have hb : w3.heap[w2.heap.size]? = some (.cells #[.int .u32 266, .int .u8 (aflags 0 true), .int .u32 0, .slice da1 4 dc1, .int .u32 258, .int .u8 (aflags 0 true), .int .u32 0, .slice da2 4 dc2] 41 (0, 0)) := by rw [hw3]; exact heap_alloc_new _ _
    have u1 : U8s w3 da1 4 (be32 vd) := by rw [hw3]; exact U1.out.grow (World.grownBy_alloc _ _ _)
    have u2 : U8s w3 da2 4 (be32 id) := by rw [hw3]; exact U2.out.grow (World.grownBy_alloc _ _ _)
    intro i h
    match i, h with
    | 0, _ => exact ⟨avp_at hb rfl rfl rfl rfl, avp_fits true u1 HV.out.2.1 HV.out.2.2 (by decide) (by decide)⟩
    | 1, _ => exact ⟨avp_at hb rfl rfl rfl rfl, avp_fits true u2 HV.out.1.1 HV.out.1.2 (by decide) (by decide)⟩
    | n + 2, h => (simp only [List.length_cons, List.length_nil] at h; omega)
  clear hw3
  refine hK.out _ _ ?hS10 (fun hHeld2 => ?_)
  case hS10 => exact HS.out _ (gweak G3.out _)
  clear hK K hHeld
  have hHeld := hHeld2
  clear hHeld2
  (try simp only [Act.put, List.setIfInBounds_toArray, List.set_cons_zero, List.set_cons_succ])
  refine wpAnyH_ready (rs := [11]) (by kernel_rfl) (by simp) ?_
  refine AllReadyH.cons (o := ({ dst := some 77, op := Op.call { callee := Callee.value (Operand.func 25), args := #[Operand.tmp 67, Operand.tmp 76], argTypes := #[122, 35] }, type := 41, pos := "server.go:366", after := #[{ on := 1, ground := Ground.data }, { on := 10, ground := Ground.data }, { on := 9, ground := Ground.chain }], guard := none } : Oper)) rfl (fun K hK => ?_) AllReadyH.nil
  go_simp
  refine (Group_any (nm 15) 260 0 9 true w2.heap.size 0 2 2 [(⟨266, aflags 0 true, 0, da1, 4, dc1, be32 vd⟩ : Avp), (⟨258, aflags 0 true, 0, da2, 4, dc2, be32 id⟩ : Avp)] _ rfl (by decide) (by intro a ha; simp only [List.mem_cons, List.not_mem_nil, or_false] at ha; rcases ha with rfl | rfl <;> (show (4 : Nat) ≤ 1048576) <;> omega) HAT.out).mono ?_
  rintro e w4 ⟨g, n, hn, rfl, _, hb4⟩
  have G4 : Hid (w.grownBy w4 none) := gtrans G3.out (gofBelow hb4)
  clear hb4 HAT hn
  refine hK.out _ _ ?hS11 (fun hHeld2 => ?_)
  case hS11 => exact HS.out _ (gweak G4.out _)
  clear hK K hHeld
  have hHeld := hHeld2
  clear hHeld2
  (try simp only [Act.put, List.setIfInBounds_toArray, List.set_cons_zero, List.set_cons_succ])
  refine wpAnyH_ready (rs := [12]) (by kernel_rfl) (by simp) ?_
  refine AllReadyH.cons (o := ({ dst := some 78, op := Op.buildSlice 35 1 #[(0, Operand.tmp 77)], type := 35, pos := "server.go:366", after := #[{ on := 11, ground := Ground.data }], guard := none } : Oper)) rfl (fun K hK => ?_) AllReadyH.nil
  go_simp
  obtain ⟨wA, hwA⟩ : ∃ wA, wA = w4.alloc (.cells (flat [(⟨260, aflags 0 true, 0, some ⟨g, 0, none⟩, n, n⟩ : Av)]).toArray 41) := ⟨_, rfl⟩
  have gA : Hid (w.grownBy wA none) := by show w.grownBy wA none; rw [hwA]; exact gtrans G4.out (World.grownBy_alloc _ _ _)
  have HN : Hid (∀ j u, (flat [(⟨260, aflags 0 true, 0, some ⟨g, 0, none⟩, n, n⟩ : Av)])[j]? = some u → wA.cell? ((⟨w4.heap.size, 0, none⟩ : Addr).add j) = some u) := by
    show ∀ j u, (flat [(⟨260, aflags 0 true, 0, some ⟨g, 0, none⟩, n, n⟩ : Av)])[j]? = some u → wA.cell? ((⟨w4.heap.size, 0, none⟩ : Addr).add j) = some u
    rw [hwA]
    exact World.news_of_block (heap_alloc_new _ _)
  have eA : w4.alloc (.cells #[.int .u32 260, .int .u8 (aflags 0 true), .int .u32 0, .slice (some ⟨g, 0, none⟩) n n] 41) = wA := hwA.symm
  rw [eA]
  clear hwA eA
  refine hK.out _ _ ?hS12 (fun hHeld2 => ?_)
  case hS12 => exact HS.out _ (gweak gA.out _)
  clear hK K hHeld
  have hHeld := hHeld2
  clear hHeld2
  (try simp only [Act.put, List.setIfInBounds_toArray, List.set_cons_zero, List.set_cons_succ])
  refine wpAnyH_ready (rs := [13]) (by kernel_rfl) (by simp) ?_
  refine AllReadyH.cons (o := ({ dst := some 79, op := Op.call { callee := Callee.builtin Builtin.append, args := #[Operand.tmp 66, Operand.tmp 78], argTypes := #[35, 35] }, type := 35, pos := "server.go:366", after := #[{ on := 0, ground := Ground.data }, { on := 12, ground := Ground.data }, { on := 11, ground := Ground.chain }], guard := none } : Oper)) rfl (fun K hK => ?_) AllReadyH.nil
  refine step_append_lies _ rfl (.tmp 66) (.tmp 78) 35 rfl B 41 j41 (.agg #[.int .u32 0, .int .u8 0, .int .u32 0, .slice none 0 0]) 4 40 Ybad.underlying35 hj hy0 hy1 hy2 rfl (by decide) sv avs.length (flat avs) (by simp [Act.eval, Act.put]) (keptN HR.out gA.out) ⟨w4.heap.size, 0, none⟩ 1 1 (flat [(⟨260, aflags 0 true, 0, some ⟨g, 0, none⟩, n, n⟩ : Av)]) (by simp [Act.eval, Act.put]) rfl HN.out (flat_one _) (by decide) (by have := HX.out.1; unfold maxLen; omega) (by have := HX.out.1; omega) (Nat.le_trans HX.out.2.1 gA.out.size) _ rfl ?_
  intro gz capz wz hown4 hg4 _ _
  have HO4 : Hid (wz.ownsRow B 41 4 (.slice (some ⟨gz, 0, none⟩) (avs.length + 1) capz) (avs ++ [(⟨260, aflags 0 true, 0, some ⟨g, 0, none⟩, n, n⟩ : Av)]).length (flat (avs ++ [(⟨260, aflags 0 true, 0, some ⟨g, 0, none⟩, n, n⟩ : Av)]))) := by show wz.ownsRow _ _ _ _ _ _; rw [flat_append, List.length_append]; exact hown4
  have HG4 : Hid (wA.grownBy wz sv.ownBlock) := hg4
  clear hown4 hg4
  refine hK.out _ _ ?hS13 (fun hHeld2 => ?_)
  case hS13 => exact HS.out _ (gtrans (gweak gA.out _) HG4.out)
  clear hK K hHeld
  have hHeld := hHeld2
  clear hHeld2
  (try simp only [Act.put, List.setIfInBounds_toArray, List.set_cons_zero, List.set_cons_succ])
  refine wpAnyH_take (i := 14) (oi := ({ dst := some 3, op := Op.assign (Operand.tmp 79), type := 35, pos := "server.go:366", after := #[{ on := 13, ground := Ground.data }, { on := 13, ground := Ground.chain }, { on := 0, ground := Ground.phase }, { on := 1, ground := Ground.phase }, { on := 2, ground := Ground.phase }, { on := 3, ground := Ground.phase }, { on := 4, ground := Ground.phase }, { on := 5, ground := Ground.phase }, { on := 6, ground := Ground.phase }, { on := 7, ground := Ground.phase }, { on := 8, ground := Ground.phase }, { on := 9, ground := Ground.phase }, { on := 10, ground := Ground.phase }, { on := 11, ground := Ground.phase }, { on := 12, ground := Ground.phase }, { on := 13, ground := Ground.phase }], guard := none } : Oper)) (v := ?v14) rfl (by kernel_rfl) (by kernel_rfl) (by kernel_rfl) (fun _ _ _ h => h) (Or.inl ⟨by rfl, ?hy14⟩) (by assumption) ?rest14
  case hy14 => (intro w hSw; (try dsimp only at hSw); go_simp; try (first | with_reducible rfl | decide))
  (try simp only [Act.put, List.setIfInBounds_toArray, List.set_cons_zero, List.set_cons_succ])
  refine wpAnyH_done (by kernel_rfl) ?_ _
  exact NoPanic.normal (HQ.out _ _ _ _ _ _ _ _ _ _ _ _ _ _ _ _ _ rfl HO4.out (gtrans (gweak gA.out _) HG4.out))
end Go.Proofs.YbulkaptmDoor
