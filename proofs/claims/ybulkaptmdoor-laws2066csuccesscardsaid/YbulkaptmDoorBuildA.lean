/-
  build: the loop's append; the connection's box.
-/
import Derived.Test.YbulkaptmDoorFrom
namespace Go.Proofs.YbulkaptmDoor
open Go.RowKit
set_option linter.unusedVariables false
set_option linter.unusedSimpArgs false
set_option maxRecDepth 100000

set_option maxHeartbeats 6400000 in
theorem build_r6 {Q : Exit → Act → World → Prop} {ds : List Deferred} {t0 t2 t3 t4 t7 t8 t9 t10 t11 t12 t13 t14 t15 t16 t17 t18 t19 t20 t21 t22 t23 t24 t25 t26 t27 t28 t29 t30 t31 t32 t33 t34 t35 t36 t37 t38 t39 t40 t41 t42 t43 t44 t45 t46 t47 t48 t49 t50 t51 t52 t53 t54 t55 t56 t57 t58 t59 t60 t61 t62 t63 t64 t65 t66 t67 t68 t69 t70 t71 t72 t73 t74 t75 t76 t77 t78 t79 t80 t81 t82 t83 t84 t85 t86 t87 : Value} {w : World} {b B k il ic vl vc : Nat} {xi xv : Addr} {id vd : Int} {sv : Value} {xs : List Value}
    (hS : ∀ w', w.grownBy w' sv.ownBlock → (fun w' => w'.cell? ⟨b, 16, none⟩ = some (.slice (some xi) il ic) ∧ w'.cell? ⟨b, 17, none⟩ = some (.slice (some xv) vl vc) ∧ w'.cell? (xi.add k) = some (.int .u32 id) ∧ w'.cell? (xv.add k) = some (.int .u32 vd)) w') (hown : w.ownsRow B 55 2 sv k xs) (hk : k ≤ 100000) (hB : B ≤ w.heap.size) (hki : k < il) (hkv : k < vl)
    (hQ : ∀ (s21 s22 s23 s24 s25 s26 s27 s28 s29 s30 s31 s32 s33 s34 : Value) (sv' : Value) (w' : World), w'.ownsRow B 55 2 sv' (k + 1) (xs ++ [.int .u32 id, .int .u32 vd]) → w.grownBy w' sv.ownBlock → Q .normal { tmps := #[t0, (.pointer (some ⟨b, 0, none⟩)), t2, t3, t4, sv', (.int .i64 (k : Nat)), t7, t8, t9, t10, t11, t12, t13, t14, t15, t16, t17, t18, t19, t20, s21, s22, s23, s24, s25, s26, s27, s28, s29, s30, s31, s32, s33, s34, t35, t36, t37, t38, t39, t40, t41, t42, t43, t44, t45, t46, t47, t48, t49, t50, t51, t52, t53, t54, t55, t56, t57, t58, t59, t60, t61, t62, t63, t64, t65, t66, t67, t68, t69, t70, t71, t72, t73, t74, t75, t76, t77, t78, t79, t80, t81, t82, t83, t84, t85, t86, t87], defers := ds } w') :
    (Code.region 6 #[{ dst := some 21, op := Op.move (Operand.tmp 5), type := 53, pos := "zz_law_s2066c.go:39", after := #[], guard := none }, { dst := some 22, op := Op.fieldAddr 28 (Operand.tmp 1) 13, type := 0, pos := "zz_law_s2066c.go:39", after := #[], guard := none }, { dst := some 23, op := Op.load 26 (Operand.tmp 22), type := 26, pos := "zz_law_s2066c.go:39", after := #[{ on := 1, ground := Ground.data }], guard := none }, { dst := some 24, op := Op.move (Operand.tmp 6), type := 3, pos := "zz_law_s2066c.go:39", after := #[], guard := none }, { dst := some 25, op := Op.indexAddr 26 (Operand.tmp 23) (Operand.tmp 24), type := 0, pos := "zz_law_s2066c.go:39", after := #[{ on := 2, ground := Ground.data }, { on := 3, ground := Ground.data }], guard := none }, { dst := some 26, op := Op.load 22 (Operand.tmp 25), type := 22, pos := "zz_law_s2066c.go:39", after := #[{ on := 4, ground := Ground.data }], guard := none }, { dst := some 27, op := Op.fieldAddr 28 (Operand.tmp 1) 14, type := 0, pos := "zz_law_s2066c.go:39", after := #[], guard := none }, { dst := some 28, op := Op.load 26 (Operand.tmp 27), type := 26, pos := "zz_law_s2066c.go:39", after := #[{ on := 6, ground := Ground.data }], guard := none }, { dst := some 29, op := Op.move (Operand.tmp 6), type := 3, pos := "zz_law_s2066c.go:39", after := #[], guard := none }, { dst := some 30, op := Op.indexAddr 26 (Operand.tmp 28) (Operand.tmp 29), type := 0, pos := "zz_law_s2066c.go:39", after := #[{ on := 7, ground := Ground.data }, { on := 8, ground := Ground.data }], guard := none }, { dst := some 31, op := Op.load 22 (Operand.tmp 30), type := 22, pos := "zz_law_s2066c.go:39", after := #[{ on := 9, ground := Ground.data }], guard := none }, { dst := some 32, op := Op.build 55 #[(0, Operand.tmp 26), (1, Operand.tmp 31)], type := 55, pos := "zz_law_s2066c.go:39", after := #[{ on := 5, ground := Ground.data }, { on := 10, ground := Ground.data }], guard := none }, { dst := some 33, op := Op.buildSlice 53 1 #[(0, Operand.tmp 32)], type := 53, pos := "zz_law_s2066c.go:39", after := #[{ on := 11, ground := Ground.data }], guard := none }, { dst := some 34, op := Op.call { callee := Callee.builtin Builtin.append, args := #[Operand.tmp 21, Operand.tmp 33], argTypes := #[53, 53] }, type := 53, pos := "zz_law_s2066c.go:39", after := #[{ on := 0, ground := Ground.data }, { on := 12, ground := Ground.data }], guard := none }, { dst := some 5, op := Op.assign (Operand.tmp 34), type := 53, pos := "zz_law_s2066c.go:39", after := #[{ on := 13, ground := Ground.data }, { on := 13, ground := Ground.chain }, { on := 0, ground := Ground.phase }, { on := 1, ground := Ground.phase }, { on := 2, ground := Ground.phase }, { on := 3, ground := Ground.phase }, { on := 4, ground := Ground.phase }, { on := 5, ground := Ground.phase }, { on := 6, ground := Ground.phase }, { on := 7, ground := Ground.phase }, { on := 8, ground := Ground.phase }, { on := 9, ground := Ground.phase }, { on := 10, ground := Ground.phase }, { on := 11, ground := Ground.phase }, { on := 12, ground := Ground.phase }, { on := 13, ground := Ground.phase }], guard := none }] true).wp Ybad.prog Q { tmps := #[t0, (.pointer (some ⟨b, 0, none⟩)), t2, t3, t4, sv, (.int .i64 (k : Nat)), t7, t8, t9, t10, t11, t12, t13, t14, t15, t16, t17, t18, t19, t20, t21, t22, t23, t24, t25, t26, t27, t28, t29, t30, t31, t32, t33, t34, t35, t36, t37, t38, t39, t40, t41, t42, t43, t44, t45, t46, t47, t48, t49, t50, t51, t52, t53, t54, t55, t56, t57, t58, t59, t60, t61, t62, t63, t64, t65, t66, t67, t68, t69, t70, t71, t72, t73, t74, t75, t76, t77, t78, t79, t80, t81, t82, t83, t84, t85, t86, t87], defers := ds } w := by
  obtain ⟨i0, hi, hz0, hz1, hz2⟩ := info_parts info55
  have HS : Hid (∀ w', w.grownBy w' sv.ownBlock → (fun w' => w'.cell? ⟨b, 16, none⟩ = some (.slice (some xi) il ic) ∧ w'.cell? ⟨b, 17, none⟩ = some (.slice (some xv) vl vc) ∧ w'.cell? (xi.add k) = some (.int .u32 id) ∧ w'.cell? (xv.add k) = some (.int .u32 vd)) w') := hS
  have HO : Hid (w.ownsRow B 55 2 sv k xs) := hown
  have HX : Hid (k ≤ 100000 ∧ B ≤ w.heap.size) := ⟨hk, hB⟩
  have e1 : (0 : Int) ≤ (k : Int) := by omega
  have e2 : (k : Int) < (il : Int) := by omega
  have e3 : (k : Int) < (vl : Int) := by omega
  clear hS hown hk hB hki hkv
  have HQ : Hid (∀ (s21 s22 s23 s24 s25 s26 s27 s28 s29 s30 s31 s32 s33 s34 : Value) (sv' : Value) (w' : World), w'.ownsRow B 55 2 sv' (k + 1) (xs ++ [.int .u32 id, .int .u32 vd]) → w.grownBy w' sv.ownBlock → Q .normal { tmps := #[t0, (.pointer (some ⟨b, 0, none⟩)), t2, t3, t4, sv', (.int .i64 (k : Nat)), t7, t8, t9, t10, t11, t12, t13, t14, t15, t16, t17, t18, t19, t20, s21, s22, s23, s24, s25, s26, s27, s28, s29, s30, s31, s32, s33, s34, t35, t36, t37, t38, t39, t40, t41, t42, t43, t44, t45, t46, t47, t48, t49, t50, t51, t52, t53, t54, t55, t56, t57, t58, t59, t60, t61, t62, t63, t64, t65, t66, t67, t68, t69, t70, t71, t72, t73, t74, t75, t76, t77, t78, t79, t80, t81, t82, t83, t84, t85, t86, t87], defers := ds } w') := hQ
  clear hQ
  refine wp_region_noPanic ?_
  refine wp_region_held_drew (S := (fun w' => w'.cell? ⟨b, 16, none⟩ = some (.slice (some xi) il ic) ∧ w'.cell? ⟨b, 17, none⟩ = some (.slice (some xv) vl vc) ∧ w'.cell? (xi.add k) = some (.int .u32 id) ∧ w'.cell? (xv.add k) = some (.int .u32 vd))) (by kernel_rfl) ?hS (fun hHeld => ?_)
  case hS => exact HS.out _ (gdrew _ _)
  refine wpAnyH_take (i := 0) (oi := ({ dst := some 21, op := Op.move (Operand.tmp 5), type := 53, pos := "zz_law_s2066c.go:39", after := #[], guard := none } : Oper)) (v := ?v0) rfl (by kernel_rfl) (by kernel_rfl) (by kernel_rfl) (fun _ _ _ h => h) (Or.inl ⟨by rfl, ?hy0⟩) (by assumption) ?rest0
  case hy0 => (intro w hSw; (try dsimp only at hSw); go_simp; try (first | with_reducible rfl | decide))
  (try simp only [Act.put, List.setIfInBounds_toArray, List.set_cons_zero, List.set_cons_succ])
  refine wpAnyH_take (i := 1) (oi := ({ dst := some 22, op := Op.fieldAddr 28 (Operand.tmp 1) 13, type := 0, pos := "zz_law_s2066c.go:39", after := #[], guard := none } : Oper)) (v := ?v1) rfl (by kernel_rfl) (by kernel_rfl) (by kernel_rfl) (fun _ _ _ h => h) (Or.inl ⟨by rfl, ?hy1⟩) (by assumption) ?rest1
  case hy1 => (intro w hSw; (try dsimp only at hSw); go_simp; try (first | with_reducible rfl | decide))
  (try simp only [Act.put, List.setIfInBounds_toArray, List.set_cons_zero, List.set_cons_succ])
  refine wpAnyH_take (i := 2) (oi := ({ dst := some 23, op := Op.load 26 (Operand.tmp 22), type := 26, pos := "zz_law_s2066c.go:39", after := #[{ on := 1, ground := Ground.data }], guard := none } : Oper)) (v := ?v2) rfl (by kernel_rfl) (by kernel_rfl) (by kernel_rfl) (fun _ _ _ h => h) (Or.inl ⟨by rfl, ?hy2⟩) (by assumption) ?rest2
  case hy2 => (intro w hSw; (try dsimp only at hSw); go_simp; try (first | with_reducible rfl | decide))
  (try simp only [Act.put, List.setIfInBounds_toArray, List.set_cons_zero, List.set_cons_succ])
  refine wpAnyH_take (i := 3) (oi := ({ dst := some 24, op := Op.move (Operand.tmp 6), type := 3, pos := "zz_law_s2066c.go:39", after := #[], guard := none } : Oper)) (v := ?v3) rfl (by kernel_rfl) (by kernel_rfl) (by kernel_rfl) (fun _ _ _ h => h) (Or.inl ⟨by rfl, ?hy3⟩) (by assumption) ?rest3
  case hy3 => (intro w hSw; (try dsimp only at hSw); go_simp; try (first | with_reducible rfl | decide))
  (try simp only [Act.put, List.setIfInBounds_toArray, List.set_cons_zero, List.set_cons_succ])
  refine wpAnyH_take (i := 4) (oi := ({ dst := some 25, op := Op.indexAddr 26 (Operand.tmp 23) (Operand.tmp 24), type := 0, pos := "zz_law_s2066c.go:39", after := #[{ on := 2, ground := Ground.data }, { on := 3, ground := Ground.data }], guard := none } : Oper)) (v := .pointer (some (xi.add k))) rfl (by kernel_rfl) (by kernel_rfl) (by kernel_rfl) (fun _ _ _ h => h) (Or.inl ⟨by rfl, ?hy4⟩) (by assumption) ?rest4
  case hy4 => (intro w hSw; (try dsimp only at hSw); go_simp; try (first | with_reducible rfl | decide))
  (try simp only [Act.put, List.setIfInBounds_toArray, List.set_cons_zero, List.set_cons_succ])
  refine wpAnyH_take (i := 5) (oi := ({ dst := some 26, op := Op.load 22 (Operand.tmp 25), type := 22, pos := "zz_law_s2066c.go:39", after := #[{ on := 4, ground := Ground.data }], guard := none } : Oper)) (v := ?v5) rfl (by kernel_rfl) (by kernel_rfl) (by kernel_rfl) (fun _ _ _ h => h) (Or.inl ⟨by rfl, ?hy5⟩) (by assumption) ?rest5
  case hy5 => (intro w hSw; (try dsimp only at hSw); go_simp; try (first | with_reducible rfl | decide))
  (try simp only [Act.put, List.setIfInBounds_toArray, List.set_cons_zero, List.set_cons_succ])
  refine wpAnyH_take (i := 6) (oi := ({ dst := some 27, op := Op.fieldAddr 28 (Operand.tmp 1) 14, type := 0, pos := "zz_law_s2066c.go:39", after := #[], guard := none } : Oper)) (v := ?v6) rfl (by kernel_rfl) (by kernel_rfl) (by kernel_rfl) (fun _ _ _ h => h) (Or.inl ⟨by rfl, ?hy6⟩) (by assumption) ?rest6
  case hy6 => (intro w hSw; (try dsimp only at hSw); go_simp; try (first | with_reducible rfl | decide))
  (try simp only [Act.put, List.setIfInBounds_toArray, List.set_cons_zero, List.set_cons_succ])
  refine wpAnyH_take (i := 7) (oi := ({ dst := some 28, op := Op.load 26 (Operand.tmp 27), type := 26, pos := "zz_law_s2066c.go:39", after := #[{ on := 6, ground := Ground.data }], guard := none } : Oper)) (v := ?v7) rfl (by kernel_rfl) (by kernel_rfl) (by kernel_rfl) (fun _ _ _ h => h) (Or.inl ⟨by rfl, ?hy7⟩) (by assumption) ?rest7
  case hy7 => (intro w hSw; (try dsimp only at hSw); go_simp; try (first | with_reducible rfl | decide))
  (try simp only [Act.put, List.setIfInBounds_toArray, List.set_cons_zero, List.set_cons_succ])
  refine wpAnyH_take (i := 8) (oi := ({ dst := some 29, op := Op.move (Operand.tmp 6), type := 3, pos := "zz_law_s2066c.go:39", after := #[], guard := none } : Oper)) (v := ?v8) rfl (by kernel_rfl) (by kernel_rfl) (by kernel_rfl) (fun _ _ _ h => h) (Or.inl ⟨by rfl, ?hy8⟩) (by assumption) ?rest8
  case hy8 => (intro w hSw; (try dsimp only at hSw); go_simp; try (first | with_reducible rfl | decide))
  (try simp only [Act.put, List.setIfInBounds_toArray, List.set_cons_zero, List.set_cons_succ])
  refine wpAnyH_take (i := 9) (oi := ({ dst := some 30, op := Op.indexAddr 26 (Operand.tmp 28) (Operand.tmp 29), type := 0, pos := "zz_law_s2066c.go:39", after := #[{ on := 7, ground := Ground.data }, { on := 8, ground := Ground.data }], guard := none } : Oper)) (v := .pointer (some (xv.add k))) rfl (by kernel_rfl) (by kernel_rfl) (by kernel_rfl) (fun _ _ _ h => h) (Or.inl ⟨by rfl, ?hy9⟩) (by assumption) ?rest9
  case hy9 => (intro w hSw; (try dsimp only at hSw); go_simp; try (first | with_reducible rfl | decide))
  (try simp only [Act.put, List.setIfInBounds_toArray, List.set_cons_zero, List.set_cons_succ])
  refine wpAnyH_take (i := 10) (oi := ({ dst := some 31, op := Op.load 22 (Operand.tmp 30), type := 22, pos := "zz_law_s2066c.go:39", after := #[{ on := 9, ground := Ground.data }], guard := none } : Oper)) (v := ?v10) rfl (by kernel_rfl) (by kernel_rfl) (by kernel_rfl) (fun _ _ _ h => h) (Or.inl ⟨by rfl, ?hy10⟩) (by assumption) ?rest10
  case hy10 => (intro w hSw; (try dsimp only at hSw); go_simp; try (first | with_reducible rfl | decide))
  (try simp only [Act.put, List.setIfInBounds_toArray, List.set_cons_zero, List.set_cons_succ])
  refine wpAnyH_take (i := 11) (oi := ({ dst := some 32, op := Op.build 55 #[(0, Operand.tmp 26), (1, Operand.tmp 31)], type := 55, pos := "zz_law_s2066c.go:39", after := #[{ on := 5, ground := Ground.data }, { on := 10, ground := Ground.data }], guard := none } : Oper)) (v := ?v11) rfl (by kernel_rfl) (by kernel_rfl) (by kernel_rfl) (fun _ _ _ h => h) (Or.inl ⟨by rfl, ?hy11⟩) (by assumption) ?rest11
  case hy11 => (intro w hSw; (try dsimp only at hSw); go_simp; try (first | with_reducible rfl | decide))
  (try simp only [Act.put, List.setIfInBounds_toArray, List.set_cons_zero, List.set_cons_succ])
  refine wpAnyH_ready (rs := [12]) (by kernel_rfl) (by simp) ?_
  refine AllReadyH.cons (o := ({ dst := some 33, op := Op.buildSlice 53 1 #[(0, Operand.tmp 32)], type := 53, pos := "zz_law_s2066c.go:39", after := #[{ on := 11, ground := Ground.data }], guard := none } : Oper)) rfl (fun K hK => ?_) AllReadyH.nil
  go_simp
  obtain ⟨wA, hwA⟩ : ∃ wA, wA = (w.alloc (.cells #[.int .u32 id, .int .u32 vd] 55)).drew := ⟨_, rfl⟩
  rw [← hwA]
  have gA : Hid (w.grownBy wA none) := by show w.grownBy wA none; rw [hwA]; exact gtrans (World.grownBy_alloc _ _ _) (gdrew _ _)
  have HN : Hid (∀ j u, [Value.int .u32 id, Value.int .u32 vd][j]? = some u → wA.cell? ((⟨w.heap.size, 0, none⟩ : Addr).add j) = some u) := by
    show ∀ j u, [Value.int .u32 id, Value.int .u32 vd][j]? = some u → wA.cell? ((⟨w.heap.size, 0, none⟩ : Addr).add j) = some u
    rw [hwA]
    exact World.news_of_block (gblockN (gdrew _ _) (heap_alloc_new _ _))
  clear hwA
  refine hK.out _ _ ?hS12 (fun hHeld2 => ?_)
  case hS12 => exact HS.out _ (gweak gA.out _)
  clear hK K hHeld
  have hHeld := hHeld2
  clear hHeld2
  (try simp only [Act.put, List.setIfInBounds_toArray, List.set_cons_zero, List.set_cons_succ])
  refine wpAnyH_ready (rs := [13]) (by kernel_rfl) (by simp) ?_
  refine AllReadyH.cons (o := ({ dst := some 34, op := Op.call { callee := Callee.builtin Builtin.append, args := #[Operand.tmp 21, Operand.tmp 33], argTypes := #[53, 53] }, type := 53, pos := "zz_law_s2066c.go:39", after := #[{ on := 0, ground := Ground.data }, { on := 12, ground := Ground.data }], guard := none } : Oper)) rfl (fun K hK => ?_) AllReadyH.nil
  refine step_append_lies _ rfl (.tmp 21) (.tmp 33) 53 rfl B 55 i0 (.agg #[.int .u32 0, .int .u32 0]) 2 8 Ybad.underlying53 hi hz0 hz1 hz2 rfl (by decide) sv k xs (by simp [Act.eval, Act.put]) (keptN HO.out gA.out) ⟨w.heap.size, 0, none⟩ 1 1 [.int .u32 id, .int .u32 vd] (by simp [Act.eval, Act.put]) rfl HN.out (by intro u hu; simp only [List.mem_cons, List.not_mem_nil, or_false] at hu; rcases hu with rfl | rfl <;> rfl) (by decide) (by have := HX.out.1; unfold maxLen; omega) (by have := HX.out.1; omega) (Nat.le_trans HX.out.2 gA.out.size) _ rfl ?_
  intro gz capz wz hown4 hg4 _ _
  have HO4 : Hid (wz.ownsRow B 55 2 (.slice (some ⟨gz, 0, none⟩) (k + 1) capz) (k + 1) (xs ++ [.int .u32 id, .int .u32 vd])) := hown4
  have HG4 : Hid (w.grownBy wz sv.ownBlock) := gtrans (gweak gA.out _) hg4
  clear hown4 hg4
  refine hK.out _ _ ?hS13 (fun hHeld2 => ?_)
  case hS13 => exact HS.out _ HG4.out
  clear hK K hHeld
  have hHeld := hHeld2
  clear hHeld2
  (try simp only [Act.put, List.setIfInBounds_toArray, List.set_cons_zero, List.set_cons_succ])
  refine wpAnyH_take (i := 14) (oi := ({ dst := some 5, op := Op.assign (Operand.tmp 34), type := 53, pos := "zz_law_s2066c.go:39", after := #[{ on := 13, ground := Ground.data }, { on := 13, ground := Ground.chain }, { on := 0, ground := Ground.phase }, { on := 1, ground := Ground.phase }, { on := 2, ground := Ground.phase }, { on := 3, ground := Ground.phase }, { on := 4, ground := Ground.phase }, { on := 5, ground := Ground.phase }, { on := 6, ground := Ground.phase }, { on := 7, ground := Ground.phase }, { on := 8, ground := Ground.phase }, { on := 9, ground := Ground.phase }, { on := 10, ground := Ground.phase }, { on := 11, ground := Ground.phase }, { on := 12, ground := Ground.phase }, { on := 13, ground := Ground.phase }], guard := none } : Oper)) (v := ?v14) rfl (by kernel_rfl) (by kernel_rfl) (by kernel_rfl) (fun _ _ _ h => h) (Or.inl ⟨by rfl, ?hy14⟩) (by assumption) ?rest14
  case hy14 => (intro w hSw; (try dsimp only at hSw); go_simp; try (first | with_reducible rfl | decide))
  (try simp only [Act.put, List.setIfInBounds_toArray, List.set_cons_zero, List.set_cons_succ])
  refine wpAnyH_done (by kernel_rfl) ?_ _
  exact NoPanic.normal (HQ.out _ _ _ _ _ _ _ _ _ _ _ _ _ _ _ _ HO4.out HG4.out)
end Go.Proofs.YbulkaptmDoor
