/-
  Answer's first append.
-/
import Derived.Test.YbulkaptmDoorKeep
namespace Go.Proofs.YbulkaptmDoor
open Go.RowKit
set_option linter.unusedVariables false
set_option linter.unusedSimpArgs false
set_option maxRecDepth 100000

set_option maxHeartbeats 3200000 in
theorem ans_r4 {Q : Exit → Act → World → Prop} {ds : List Deferred} {t0 t1 t2 t3 t4 t7 t8 t9 t10 t11 t12 t13 t14 t15 t16 t17 t18 t19 t20 t21 t22 t23 t24 t25 t26 t27 t28 t29 t30 t31 t32 t33 t34 t35 t36 t37 t38 t39 t40 t41 t42 t43 t44 t45 t46 t47 t48 t49 t50 t51 t52 t53 t54 t55 t56 t57 t58 t59 t60 t61 t62 t63 t64 t65 t66 t67 t68 : Value} {w : World} {B p : Nat} {fl cmd app hop ete : Int} {sv : Value} {avs : List Av} {nm : Nat → ByteArray} {z : Addr} {q : Nat} {sa : Av}
    (hms : MsgSt w B p fl cmd app hop ete sv avs) (hG : Globs w nm z) (hB : 17 ≤ B) (hn : avs.length ≤ 100000) (hq : w.heap[q]? = some (.cells #[.int .u32 sa.code, .int .u8 sa.flags, .int .u32 sa.vendor, .slice sa.da sa.dl sa.dc] 41 (0, 0))) (hqn : ∀ k, sv.ownBlock = some k → q ≠ k)
    (hQ : ∀ (s41 s42 s43 s44 s45 s46 s47 s48 s49 s50 : Value) (w' : World) , AppPost w B p fl cmd app hop ete avs [sa] w' → Q .normal { tmps := #[t0, t1, t2, t3, t4, (.pointer (some ⟨p, 0, none⟩)), (.pointer (some ⟨q, 0, none⟩)), t7, t8, t9, t10, t11, t12, t13, t14, t15, t16, t17, t18, t19, t20, t21, t22, t23, t24, t25, t26, t27, t28, t29, t30, t31, t32, t33, t34, t35, t36, t37, t38, t39, t40, s41, s42, s43, s44, s45, s46, s47, s48, s49, s50, t51, t52, t53, t54, t55, t56, t57, t58, t59, t60, t61, t62, t63, t64, t65, t66, t67, t68], defers := ds } w') :
    (Code.region 4 #[{ dst := some 41, op := Op.move (Operand.tmp 5), type := 30, pos := "message.go:135", after := #[], guard := none }, { dst := some 42, op := Op.move (Operand.tmp 5), type := 30, pos := "message.go:135", after := #[], guard := none }, { dst := some 43, op := Op.nilCheck (Operand.tmp 42), type := 0, pos := "message.go:135", after := #[{ on := 1, ground := Ground.data }], guard := none }, { dst := some 44, op := Op.fieldAddr 37 (Operand.tmp 43) 5, type := 0, pos := "message.go:135", after := #[{ on := 2, ground := Ground.data }], guard := none }, { dst := some 45, op := Op.load 35 (Operand.tmp 44), type := 35, pos := "message.go:135", after := #[{ on := 3, ground := Ground.data }], guard := none }, { dst := some 46, op := Op.load 41 (Operand.tmp 6), type := 41, pos := "message.go:135", after := #[], guard := none }, { dst := some 47, op := Op.buildSlice 35 1 #[(0, Operand.tmp 46)], type := 35, pos := "message.go:135", after := #[{ on := 5, ground := Ground.data }], guard := none }, { dst := some 48, op := Op.call { callee := Callee.builtin Builtin.append, args := #[Operand.tmp 45, Operand.tmp 47], argTypes := #[35, 35] }, type := 35, pos := "message.go:135", after := #[{ on := 4, ground := Ground.data }, { on := 6, ground := Ground.data }], guard := none }, { dst := some 49, op := Op.nilCheck (Operand.tmp 41), type := 0, pos := "message.go:135", after := #[{ on := 0, ground := Ground.data }, { on := 0, ground := Ground.phase }, { on := 1, ground := Ground.phase }, { on := 2, ground := Ground.phase }, { on := 3, ground := Ground.phase }, { on := 4, ground := Ground.phase }, { on := 5, ground := Ground.phase }, { on := 6, ground := Ground.phase }, { on := 7, ground := Ground.phase }], guard := none }, { dst := some 50, op := Op.fieldAddr 37 (Operand.tmp 49) 5, type := 0, pos := "message.go:135", after := #[{ on := 8, ground := Ground.data }, { on := 0, ground := Ground.phase }, { on := 1, ground := Ground.phase }, { on := 2, ground := Ground.phase }, { on := 3, ground := Ground.phase }, { on := 4, ground := Ground.phase }, { on := 5, ground := Ground.phase }, { on := 6, ground := Ground.phase }, { on := 7, ground := Ground.phase }], guard := none }, { dst := none, op := Op.store 35 (Operand.tmp 50) (Operand.tmp 48), type := 0, pos := "message.go:135", after := #[{ on := 9, ground := Ground.data }, { on := 7, ground := Ground.data }, { on := 7, ground := Ground.chain }, { on := 0, ground := Ground.phase }, { on := 1, ground := Ground.phase }, { on := 2, ground := Ground.phase }, { on := 3, ground := Ground.phase }, { on := 4, ground := Ground.phase }, { on := 5, ground := Ground.phase }, { on := 6, ground := Ground.phase }, { on := 7, ground := Ground.phase }], guard := none }] true).wp Ybad.prog Q { tmps := #[t0, t1, t2, t3, t4, (.pointer (some ⟨p, 0, none⟩)), (.pointer (some ⟨q, 0, none⟩)), t7, t8, t9, t10, t11, t12, t13, t14, t15, t16, t17, t18, t19, t20, t21, t22, t23, t24, t25, t26, t27, t28, t29, t30, t31, t32, t33, t34, t35, t36, t37, t38, t39, t40, t41, t42, t43, t44, t45, t46, t47, t48, t49, t50, t51, t52, t53, t54, t55, t56, t57, t58, t59, t60, t61, t62, t63, t64, t65, t66, t67, t68], defers := ds } w := by
  obtain ⟨i0, hi, hz0, hz1, hz2⟩ := info_parts info41
  have MS : Hid (MsgSt w B p fl cmd app hop ete sv avs) := hms
  have GL : Hid (Globs w nm z) := hG
  have HNN : Hid (avs.length ≤ 100000) := hn
  have HQB : Hid (w.heap[q]? = some (.cells #[.int .u32 sa.code, .int .u8 sa.flags, .int .u32 sa.vendor, .slice sa.da sa.dl sa.dc] 41 (0, 0))) := hq
  have HS : Hid (∀ w', w.grownBy w' sv.ownBlock → (fun w' => w'.cell? ⟨p, 5, none⟩ = some sv ∧ w'.cell? ⟨q, 0, none⟩ = some (.int .u32 sa.code) ∧ w'.cell? ⟨q, 1, none⟩ = some (.int .u8 sa.flags) ∧ w'.cell? ⟨q, 2, none⟩ = some (.int .u32 sa.vendor) ∧ w'.cell? ⟨q, 3, none⟩ = some (.slice sa.da sa.dl sa.dc)) w') := by
    show ∀ w', w.grownBy w' sv.ownBlock → (fun w' => w'.cell? ⟨p, 5, none⟩ = some sv ∧ w'.cell? ⟨q, 0, none⟩ = some (.int .u32 sa.code) ∧ w'.cell? ⟨q, 1, none⟩ = some (.int .u8 sa.flags) ∧ w'.cell? ⟨q, 2, none⟩ = some (.int .u32 sa.vendor) ∧ w'.cell? ⟨q, 3, none⟩ = some (.slice sa.da sa.dl sa.dc)) w'
    intro w' hg
    have g17 : Below 17 w w' := gbelow hg (Nat.le_trans hB MS.out.size) (fun k hk => Nat.le_trans hB (MS.out.row.lt _ hk).1)
    have gg := GL.out.below g17
    have hb := gblock hg HQB.out (fun e => hqn _ e.symm rfl)
    exact ⟨cellOf (gblock hg MS.out.box (own_ne41 MS.out.row MS.out.box (by decide))), cellOf hb, cellOf hb, cellOf hb, cellOf hb⟩
  have HQ : Hid (∀ (s41 s42 s43 s44 s45 s46 s47 s48 s49 s50 : Value) (w' : World) , AppPost w B p fl cmd app hop ete avs [sa] w' → Q .normal { tmps := #[t0, t1, t2, t3, t4, (.pointer (some ⟨p, 0, none⟩)), (.pointer (some ⟨q, 0, none⟩)), t7, t8, t9, t10, t11, t12, t13, t14, t15, t16, t17, t18, t19, t20, t21, t22, t23, t24, t25, t26, t27, t28, t29, t30, t31, t32, t33, t34, t35, t36, t37, t38, t39, t40, s41, s42, s43, s44, s45, s46, s47, s48, s49, s50, t51, t52, t53, t54, t55, t56, t57, t58, t59, t60, t61, t62, t63, t64, t65, t66, t67, t68], defers := ds } w') := hQ
  clear hms hG hQ hn
  clear hq hqn
  refine wp_region_noPanic ?_
  refine wp_region_last (S := (fun w' => w'.cell? ⟨p, 5, none⟩ = some sv ∧ w'.cell? ⟨q, 0, none⟩ = some (.int .u32 sa.code) ∧ w'.cell? ⟨q, 1, none⟩ = some (.int .u8 sa.flags) ∧ w'.cell? ⟨q, 2, none⟩ = some (.int .u32 sa.vendor) ∧ w'.cell? ⟨q, 3, none⟩ = some (.slice sa.da sa.dl sa.dc))) 10 ({ dst := none, op := Op.store 35 (Operand.tmp 50) (Operand.tmp 48), type := 0, pos := "message.go:135", after := #[{ on := 9, ground := Ground.data }, { on := 7, ground := Ground.data }, { on := 7, ground := Ground.chain }, { on := 0, ground := Ground.phase }, { on := 1, ground := Ground.phase }, { on := 2, ground := Ground.phase }, { on := 3, ground := Ground.phase }, { on := 4, ground := Ground.phase }, { on := 5, ground := Ground.phase }, { on := 6, ground := Ground.phase }, { on := 7, ground := Ground.phase }], guard := none }) (by kernel_rfl) rfl (by kernel_rfl) ?hS (fun hHeld => ?_)
  case hS => exact HS.out _ (gweak (gdrew _ _) _)
  simp only [List.setIfInBounds_toArray, List.set_cons_zero, List.set_cons_succ, idle]
  refine wpAnyH_take (i := 0) (oi := ({ dst := some 41, op := Op.move (Operand.tmp 5), type := 30, pos := "message.go:135", after := #[], guard := none } : Oper)) (v := ?v0) rfl (by kernel_rfl) (by kernel_rfl) (by kernel_rfl) (fun _ _ _ h => h) (Or.inl ⟨by rfl, ?hy0⟩) (by assumption) ?rest0
  case hy0 => (intro w hSw; (try dsimp only at hSw); go_simp; try with_reducible rfl)
  (try simp only [Act.put, List.setIfInBounds_toArray, List.set_cons_zero, List.set_cons_succ])
  refine wpAnyH_take (i := 1) (oi := ({ dst := some 42, op := Op.move (Operand.tmp 5), type := 30, pos := "message.go:135", after := #[], guard := none } : Oper)) (v := ?v1) rfl (by kernel_rfl) (by kernel_rfl) (by kernel_rfl) (fun _ _ _ h => h) (Or.inl ⟨by rfl, ?hy1⟩) (by assumption) ?rest1
  case hy1 => (intro w hSw; (try dsimp only at hSw); go_simp; try with_reducible rfl)
  (try simp only [Act.put, List.setIfInBounds_toArray, List.set_cons_zero, List.set_cons_succ])
  refine wpAnyH_take (i := 2) (oi := ({ dst := some 43, op := Op.nilCheck (Operand.tmp 42), type := 0, pos := "message.go:135", after := #[{ on := 1, ground := Ground.data }], guard := none } : Oper)) (v := ?v2) rfl (by kernel_rfl) (by kernel_rfl) (by kernel_rfl) (fun _ _ _ h => h) (Or.inl ⟨by rfl, ?hy2⟩) (by assumption) ?rest2
  case hy2 => (intro w hSw; (try dsimp only at hSw); go_simp; try with_reducible rfl)
  (try simp only [Act.put, List.setIfInBounds_toArray, List.set_cons_zero, List.set_cons_succ])
  refine wpAnyH_take (i := 3) (oi := ({ dst := some 44, op := Op.fieldAddr 37 (Operand.tmp 43) 5, type := 0, pos := "message.go:135", after := #[{ on := 2, ground := Ground.data }], guard := none } : Oper)) (v := ?v3) rfl (by kernel_rfl) (by kernel_rfl) (by kernel_rfl) (fun _ _ _ h => h) (Or.inl ⟨by rfl, ?hy3⟩) (by assumption) ?rest3
  case hy3 => (intro w hSw; (try dsimp only at hSw); go_simp; try with_reducible rfl)
  (try simp only [Act.put, List.setIfInBounds_toArray, List.set_cons_zero, List.set_cons_succ])
  refine wpAnyH_take (i := 4) (oi := ({ dst := some 45, op := Op.load 35 (Operand.tmp 44), type := 35, pos := "message.go:135", after := #[{ on := 3, ground := Ground.data }], guard := none } : Oper)) (v := ?v4) rfl (by kernel_rfl) (by kernel_rfl) (by kernel_rfl) (fun _ _ _ h => h) (Or.inl ⟨by rfl, ?hy4⟩) (by assumption) ?rest4
  case hy4 => (intro w hSw; (try dsimp only at hSw); go_simp; try with_reducible rfl)
  (try simp only [Act.put, List.setIfInBounds_toArray, List.set_cons_zero, List.set_cons_succ])
  refine wpAnyH_take (i := 5) (oi := ({ dst := some 46, op := Op.load 41 (Operand.tmp 6), type := 41, pos := "message.go:135", after := #[], guard := none } : Oper)) (v := ?v5) rfl (by kernel_rfl) (by kernel_rfl) (by kernel_rfl) (fun _ _ _ h => h) (Or.inl ⟨by rfl, ?hy5⟩) (by assumption) ?rest5
  case hy5 => (intro w hSw; (try dsimp only at hSw); go_simp; try with_reducible rfl)
  (try simp only [Act.put, List.setIfInBounds_toArray, List.set_cons_zero, List.set_cons_succ])
  refine wpAnyH_ready (rs := [6]) (by kernel_rfl) (by simp) ?_
  refine AllReadyH.cons (o := ({ dst := some 47, op := Op.buildSlice 35 1 #[(0, Operand.tmp 46)], type := 35, pos := "message.go:135", after := #[{ on := 5, ground := Ground.data }], guard := none } : Oper)) rfl (fun K hK => ?_) AllReadyH.nil
  go_simp
  obtain ⟨wA, hwA⟩ : ∃ wA, wA = (w.alloc (.cells (flat [sa]).toArray 41)).drew := ⟨_, rfl⟩
  have gA : Hid (w.grownBy wA none) := by show w.grownBy wA none; rw [hwA]; exact gtrans (World.grownBy_alloc _ _ _) (gdrew _ _)
  have HN : Hid (∀ j u, (flat [sa])[j]? = some u → wA.cell? ((⟨w.heap.size, 0, none⟩ : Addr).add j) = some u) := by
    show ∀ j u, (flat [sa])[j]? = some u → wA.cell? ((⟨w.heap.size, 0, none⟩ : Addr).add j) = some u
    rw [hwA]
    exact World.news_of_block (gblockN (gdrew _ _) (heap_alloc_new _ _))
  have eA : (w.alloc (.cells #[.int .u32 sa.code, .int .u8 sa.flags, .int .u32 sa.vendor, .slice sa.da sa.dl sa.dc] 41)).drew = wA := hwA.symm
  rw [eA]
  clear hwA eA
  refine hK.out _ _ ?hS6 (fun hHeld2 => ?_)
  case hS6 => exact HS.out _ (gweak gA.out _)
  clear hK K hHeld
  have hHeld := hHeld2
  clear hHeld2
  (try simp only [Act.put, List.setIfInBounds_toArray, List.set_cons_zero, List.set_cons_succ])
  refine wpAnyH_ready (rs := [7]) (by kernel_rfl) (by simp) ?_
  refine AllReadyH.cons (o := ({ dst := some 48, op := Op.call { callee := Callee.builtin Builtin.append, args := #[Operand.tmp 45, Operand.tmp 47], argTypes := #[35, 35] }, type := 35, pos := "message.go:135", after := #[{ on := 4, ground := Ground.data }, { on := 6, ground := Ground.data }], guard := none } : Oper)) rfl (fun K hK => ?_) AllReadyH.nil
  have HX : Hid (avs.length + 1 ≤ maxLen ∧ B ≤ wA.heap.size ∧ (avs.length + 1) * 40 ≤ 140737488355328) := ⟨by have := HNN.out; unfold maxLen; omega, Nat.le_trans MS.out.size gA.out.size, by have := HNN.out; omega⟩
  refine step_append_lies _ rfl (.tmp 45) (.tmp 47) 35 rfl B 41 i0 (.agg #[.int .u32 0, .int .u8 0, .int .u32 0, .slice none 0 0]) 4 40 Ybad.underlying35 hi hz0 hz1 hz2 rfl (by decide) sv avs.length (flat avs) (by simp [Act.eval, Act.put]) (MS.out.grow gA.out).row ⟨w.heap.size, 0, none⟩ 1 1 (flat [sa]) (by simp [Act.eval, Act.put]) rfl HN.out (flat_one _) (by decide) HX.out.1 HX.out.2.2 HX.out.2.1 _ rfl ?_
  intro gz capz wz hown4 hg4 _ _
  have HO4 : Hid (wz.ownsRow B 41 4 (.slice (some ⟨gz, 0, none⟩) (avs.length + 1) capz) (avs.length + 1) (flat avs ++ flat [sa])) := hown4
  have HG4 : Hid (wA.grownBy wz sv.ownBlock) := hg4
  have P4 : Hid (wz.heap[p]? = _) := gblock hg4 (MS.out.grow gA.out).box (own_ne41 (MS.out.grow gA.out).row (MS.out.grow gA.out).box (by decide))
  have q4 : wz.cell? ⟨p, 5, none⟩ = some sv := cellOf P4.out
  have z4 : wz.frozen? ⟨p, 5, none⟩ = false := frozenOf P4.out
  clear hown4 hg4
  refine hK.out _ _ ?hS7 (fun hHeld2 => ?_)
  case hS7 => exact HS.out _ (gtrans (gweak gA.out _) HG4.out)
  clear hK K hHeld
  have hHeld := hHeld2
  clear hHeld2
  (try simp only [Act.put, List.setIfInBounds_toArray, List.set_cons_zero, List.set_cons_succ])
  refine wpAnyH_take (i := 8) (oi := ({ dst := some 49, op := Op.nilCheck (Operand.tmp 41), type := 0, pos := "message.go:135", after := #[{ on := 0, ground := Ground.data }, { on := 0, ground := Ground.phase }, { on := 1, ground := Ground.phase }, { on := 2, ground := Ground.phase }, { on := 3, ground := Ground.phase }, { on := 4, ground := Ground.phase }, { on := 5, ground := Ground.phase }, { on := 6, ground := Ground.phase }, { on := 7, ground := Ground.phase }], guard := none } : Oper)) (v := ?v8) rfl (by kernel_rfl) (by kernel_rfl) (by kernel_rfl) (fun _ _ _ h => h) (Or.inl ⟨by rfl, ?hy8⟩) (by assumption) ?rest8
  case hy8 => (intro w hSw; (try dsimp only at hSw); go_simp; try with_reducible rfl)
  (try simp only [Act.put, List.setIfInBounds_toArray, List.set_cons_zero, List.set_cons_succ])
  refine wpAnyH_take (i := 9) (oi := ({ dst := some 50, op := Op.fieldAddr 37 (Operand.tmp 49) 5, type := 0, pos := "message.go:135", after := #[{ on := 8, ground := Ground.data }, { on := 0, ground := Ground.phase }, { on := 1, ground := Ground.phase }, { on := 2, ground := Ground.phase }, { on := 3, ground := Ground.phase }, { on := 4, ground := Ground.phase }, { on := 5, ground := Ground.phase }, { on := 6, ground := Ground.phase }, { on := 7, ground := Ground.phase }], guard := none } : Oper)) (v := ?v9) rfl (by kernel_rfl) (by kernel_rfl) (by kernel_rfl) (fun _ _ _ h => h) (Or.inl ⟨by rfl, ?hy9⟩) (by assumption) ?rest9
  case hy9 => (intro w hSw; (try dsimp only at hSw); go_simp; try with_reducible rfl)
  (try simp only [Act.put, List.setIfInBounds_toArray, List.set_cons_zero, List.set_cons_succ])
  refine wpAnyH_take (i := 10) (oi := ({ dst := none, op := Op.move (Operand.const (Value.bool true)), type := 0, pos := "message.go:135", after := #[{ on := 9, ground := Ground.data }, { on := 7, ground := Ground.data }, { on := 7, ground := Ground.chain }, { on := 0, ground := Ground.phase }, { on := 1, ground := Ground.phase }, { on := 2, ground := Ground.phase }, { on := 3, ground := Ground.phase }, { on := 4, ground := Ground.phase }, { on := 5, ground := Ground.phase }, { on := 6, ground := Ground.phase }, { on := 7, ground := Ground.phase }], guard := none } : Oper)) (v := ?v10) rfl (by kernel_rfl) (by kernel_rfl) (by kernel_rfl) (fun _ _ _ h => h) (Or.inl ⟨by rfl, ?hy10⟩) (by assumption) ?rest10
  case hy10 => (intro w hSw; (try dsimp only at hSw); go_simp; try with_reducible rfl)
  (try simp only [Act.put, List.setIfInBounds_toArray, List.set_cons_zero, List.set_cons_succ])
  refine wpAnyH_done (by kernel_rfl) ?_ _
  simp only [afterLast]
  refine wpOp_step (i := 10) (o := ({ dst := none, op := Op.store 35 (Operand.tmp 50) (Operand.tmp 48), type := 0, pos := "message.go:135", after := #[{ on := 9, ground := Ground.data }, { on := 7, ground := Ground.data }, { on := 7, ground := Ground.chain }, { on := 0, ground := Ground.phase }, { on := 1, ground := Ground.phase }, { on := 2, ground := Ground.phase }, { on := 3, ground := Ground.phase }, { on := 4, ground := Ground.phase }, { on := 5, ground := Ground.phase }, { on := 6, ground := Ground.phase }, { on := 7, ground := Ground.phase }], guard := none } : Oper)) rfl (fun K hK => ?_)
  go_simp
  exact hK _ _ (NoPanic.normal (HQ.out _ _ _ _ _ _ _ _ _ _ _  (app_post MS.out gA.out HO4.out HG4.out)))
end Go.Proofs.YbulkaptmDoor
