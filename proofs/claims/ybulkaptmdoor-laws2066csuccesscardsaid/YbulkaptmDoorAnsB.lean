/-
  Answer's second append.
-/
import Derived.Test.YbulkaptmDoorKeep
namespace Go.Proofs.YbulkaptmDoor
open Go.RowKit
set_option linter.unusedVariables false
set_option linter.unusedSimpArgs false
set_option maxRecDepth 100000

set_option maxHeartbeats 3200000 in
theorem ans_r5 {Q : Exit → Act → World → Prop} {ds : List Deferred} {t0 t1 t3 t4 t6 t7 t8 t9 t10 t11 t12 t13 t14 t15 t16 t17 t18 t19 t20 t21 t22 t23 t24 t25 t26 t27 t28 t29 t30 t31 t32 t33 t34 t35 t36 t37 t38 t39 t40 t41 t42 t43 t44 t45 t46 t47 t48 t49 t50 t51 t52 t53 t54 t55 t56 t57 t58 t59 t60 t61 t62 t63 t64 t65 t66 t67 t68 : Value} {w : World} {B p : Nat} {fl cmd app hop ete : Int} {sv : Value} {avs : List Av} {nm : Nat → ByteArray} {z : Addr} {b0 : Nat} {host realm : ByteArray}
    (hms : MsgSt w B p fl cmd app hop ete sv avs) (hG : Globs w nm z) (hB : 17 ≤ B) (hn : avs.length ≤ 100000) (hid : w.heap[b0]? = some (.cells #[.string host, .string realm] 58 (0, 0)))
    (hQ : ∀ (s51 s52 s53 s54 s55 s56 s57 s58 s59 s60 s61 s62 s63 s64 s65 s66 s67 : Value) (w' : World) (a1 a2 : Av), a1.code = 264 → a2.code = 296 → AppPost w B p fl cmd app hop ete avs [a1, a2] w' → Q .normal { tmps := #[t0, t1, (.pointer (some ⟨b0, 0, none⟩)), t3, t4, (.pointer (some ⟨p, 0, none⟩)), t6, t7, t8, t9, t10, t11, t12, t13, t14, t15, t16, t17, t18, t19, t20, t21, t22, t23, t24, t25, t26, t27, t28, t29, t30, t31, t32, t33, t34, t35, t36, t37, t38, t39, t40, t41, t42, t43, t44, t45, t46, t47, t48, t49, t50, s51, s52, s53, s54, s55, s56, s57, s58, s59, s60, s61, s62, s63, s64, s65, s66, s67, t68], defers := ds } w') :
    (Code.region 5 #[{ dst := some 51, op := Op.move (Operand.tmp 5), type := 30, pos := "message.go:137", after := #[], guard := none }, { dst := some 52, op := Op.move (Operand.tmp 5), type := 30, pos := "message.go:137", after := #[], guard := none }, { dst := some 53, op := Op.nilCheck (Operand.tmp 52), type := 0, pos := "message.go:137", after := #[{ on := 1, ground := Ground.data }], guard := none }, { dst := some 54, op := Op.fieldAddr 37 (Operand.tmp 53) 5, type := 0, pos := "message.go:137", after := #[{ on := 2, ground := Ground.data }], guard := none }, { dst := some 55, op := Op.load 35 (Operand.tmp 54), type := 35, pos := "message.go:137", after := #[{ on := 3, ground := Ground.data }], guard := none }, { dst := some 56, op := Op.load 122 (Operand.global 7), type := 122, pos := "message.go:137", after := #[], guard := none }, { dst := some 57, op := Op.fieldAddr 58 (Operand.tmp 2) 0, type := 0, pos := "message.go:137", after := #[], guard := none }, { dst := some 58, op := Op.load 9 (Operand.tmp 57), type := 9, pos := "message.go:137", after := #[{ on := 6, ground := Ground.data }], guard := none }, { dst := some 59, op := Op.call { callee := Callee.value (Operand.func 20), args := #[Operand.tmp 56, Operand.tmp 58], argTypes := #[122, 9] }, type := 41, pos := "message.go:137", after := #[{ on := 5, ground := Ground.data }, { on := 7, ground := Ground.data }], guard := none }, { dst := some 60, op := Op.load 122 (Operand.global 8), type := 122, pos := "message.go:137", after := #[], guard := none }, { dst := some 61, op := Op.fieldAddr 58 (Operand.tmp 2) 1, type := 0, pos := "message.go:137", after := #[], guard := none }, { dst := some 62, op := Op.load 9 (Operand.tmp 61), type := 9, pos := "message.go:137", after := #[{ on := 10, ground := Ground.data }], guard := none }, { dst := some 63, op := Op.call { callee := Callee.value (Operand.func 20), args := #[Operand.tmp 60, Operand.tmp 62], argTypes := #[122, 9] }, type := 41, pos := "message.go:137", after := #[{ on := 9, ground := Ground.data }, { on := 11, ground := Ground.data }, { on := 8, ground := Ground.chain }], guard := none }, { dst := some 64, op := Op.buildSlice 35 2 #[(0, Operand.tmp 59), (1, Operand.tmp 63)], type := 35, pos := "message.go:137", after := #[{ on := 8, ground := Ground.data }, { on := 12, ground := Ground.data }], guard := none }, { dst := some 65, op := Op.call { callee := Callee.builtin Builtin.append, args := #[Operand.tmp 55, Operand.tmp 64], argTypes := #[35, 35] }, type := 35, pos := "message.go:137", after := #[{ on := 4, ground := Ground.data }, { on := 13, ground := Ground.data }, { on := 12, ground := Ground.chain }], guard := none }, { dst := some 66, op := Op.nilCheck (Operand.tmp 51), type := 0, pos := "message.go:137", after := #[{ on := 0, ground := Ground.data }, { on := 0, ground := Ground.phase }, { on := 1, ground := Ground.phase }, { on := 2, ground := Ground.phase }, { on := 3, ground := Ground.phase }, { on := 4, ground := Ground.phase }, { on := 5, ground := Ground.phase }, { on := 6, ground := Ground.phase }, { on := 7, ground := Ground.phase }, { on := 8, ground := Ground.phase }, { on := 9, ground := Ground.phase }, { on := 10, ground := Ground.phase }, { on := 11, ground := Ground.phase }, { on := 12, ground := Ground.phase }, { on := 13, ground := Ground.phase }, { on := 14, ground := Ground.phase }], guard := none }, { dst := some 67, op := Op.fieldAddr 37 (Operand.tmp 66) 5, type := 0, pos := "message.go:137", after := #[{ on := 15, ground := Ground.data }, { on := 0, ground := Ground.phase }, { on := 1, ground := Ground.phase }, { on := 2, ground := Ground.phase }, { on := 3, ground := Ground.phase }, { on := 4, ground := Ground.phase }, { on := 5, ground := Ground.phase }, { on := 6, ground := Ground.phase }, { on := 7, ground := Ground.phase }, { on := 8, ground := Ground.phase }, { on := 9, ground := Ground.phase }, { on := 10, ground := Ground.phase }, { on := 11, ground := Ground.phase }, { on := 12, ground := Ground.phase }, { on := 13, ground := Ground.phase }, { on := 14, ground := Ground.phase }], guard := none }, { dst := none, op := Op.store 35 (Operand.tmp 67) (Operand.tmp 65), type := 0, pos := "message.go:137", after := #[{ on := 16, ground := Ground.data }, { on := 14, ground := Ground.data }, { on := 14, ground := Ground.chain }, { on := 0, ground := Ground.phase }, { on := 1, ground := Ground.phase }, { on := 2, ground := Ground.phase }, { on := 3, ground := Ground.phase }, { on := 4, ground := Ground.phase }, { on := 5, ground := Ground.phase }, { on := 6, ground := Ground.phase }, { on := 7, ground := Ground.phase }, { on := 8, ground := Ground.phase }, { on := 9, ground := Ground.phase }, { on := 10, ground := Ground.phase }, { on := 11, ground := Ground.phase }, { on := 12, ground := Ground.phase }, { on := 13, ground := Ground.phase }, { on := 14, ground := Ground.phase }], guard := none }] true).wp Ybad.prog Q { tmps := #[t0, t1, (.pointer (some ⟨b0, 0, none⟩)), t3, t4, (.pointer (some ⟨p, 0, none⟩)), t6, t7, t8, t9, t10, t11, t12, t13, t14, t15, t16, t17, t18, t19, t20, t21, t22, t23, t24, t25, t26, t27, t28, t29, t30, t31, t32, t33, t34, t35, t36, t37, t38, t39, t40, t41, t42, t43, t44, t45, t46, t47, t48, t49, t50, t51, t52, t53, t54, t55, t56, t57, t58, t59, t60, t61, t62, t63, t64, t65, t66, t67, t68], defers := ds } w := by
  obtain ⟨i0, hi, hz0, hz1, hz2⟩ := info_parts info41
  have MS : Hid (MsgSt w B p fl cmd app hop ete sv avs) := hms
  have GL : Hid (Globs w nm z) := hG
  have HNN : Hid (avs.length ≤ 100000) := hn
  have HID : Hid (w.heap[b0]? = some (.cells #[.string host, .string realm] 58 (0, 0))) := hid
  have HS : Hid (∀ w', w.grownBy w' sv.ownBlock → (fun w' => w'.cell? ⟨p, 5, none⟩ = some sv ∧ w'.cell? ⟨7, 0, none⟩ = some (.string (nm 7)) ∧ w'.cell? ⟨7, 1, none⟩ = some (.int .u32 264) ∧ w'.cell? ⟨7, 2, none⟩ = some (.int .u32 0) ∧ w'.cell? ⟨7, 3, none⟩ = some (.bool true) ∧ w'.cell? ⟨7, 4, none⟩ = some (.int .u8 2) ∧ w'.cell? ⟨8, 0, none⟩ = some (.string (nm 8)) ∧ w'.cell? ⟨8, 1, none⟩ = some (.int .u32 296) ∧ w'.cell? ⟨8, 2, none⟩ = some (.int .u32 0) ∧ w'.cell? ⟨8, 3, none⟩ = some (.bool true) ∧ w'.cell? ⟨8, 4, none⟩ = some (.int .u8 2) ∧ w'.cell? ⟨b0, 0, none⟩ = some (.string host) ∧ w'.cell? ⟨b0, 1, none⟩ = some (.string realm)) w') := by
    show ∀ w', w.grownBy w' sv.ownBlock → (fun w' => w'.cell? ⟨p, 5, none⟩ = some sv ∧ w'.cell? ⟨7, 0, none⟩ = some (.string (nm 7)) ∧ w'.cell? ⟨7, 1, none⟩ = some (.int .u32 264) ∧ w'.cell? ⟨7, 2, none⟩ = some (.int .u32 0) ∧ w'.cell? ⟨7, 3, none⟩ = some (.bool true) ∧ w'.cell? ⟨7, 4, none⟩ = some (.int .u8 2) ∧ w'.cell? ⟨8, 0, none⟩ = some (.string (nm 8)) ∧ w'.cell? ⟨8, 1, none⟩ = some (.int .u32 296) ∧ w'.cell? ⟨8, 2, none⟩ = some (.int .u32 0) ∧ w'.cell? ⟨8, 3, none⟩ = some (.bool true) ∧ w'.cell? ⟨8, 4, none⟩ = some (.int .u8 2) ∧ w'.cell? ⟨b0, 0, none⟩ = some (.string host) ∧ w'.cell? ⟨b0, 1, none⟩ = some (.string realm)) w'
    intro w' hg
    have g17 : Below 17 w w' := gbelow hg (Nat.le_trans hB MS.out.size) (fun k hk => Nat.le_trans hB (MS.out.row.lt _ hk).1)
    have gg := GL.out.below g17
    have hb := gblock hg HID.out (own_ne41 MS.out.row HID.out (by decide))
    exact ⟨cellOf (gblock hg MS.out.box (own_ne41 MS.out.row MS.out.box (by decide))), gg.g7.c0, gg.g7.c1, gg.g7.c2, gg.g7.c3, gg.g7.c4, gg.g8.c0, gg.g8.c1, gg.g8.c2, gg.g8.c3, gg.g8.c4, cellOf hb, cellOf hb⟩
  have HQ : Hid (∀ (s51 s52 s53 s54 s55 s56 s57 s58 s59 s60 s61 s62 s63 s64 s65 s66 s67 : Value) (w' : World) (a1 a2 : Av), a1.code = 264 → a2.code = 296 → AppPost w B p fl cmd app hop ete avs [a1, a2] w' → Q .normal { tmps := #[t0, t1, (.pointer (some ⟨b0, 0, none⟩)), t3, t4, (.pointer (some ⟨p, 0, none⟩)), t6, t7, t8, t9, t10, t11, t12, t13, t14, t15, t16, t17, t18, t19, t20, t21, t22, t23, t24, t25, t26, t27, t28, t29, t30, t31, t32, t33, t34, t35, t36, t37, t38, t39, t40, t41, t42, t43, t44, t45, t46, t47, t48, t49, t50, s51, s52, s53, s54, s55, s56, s57, s58, s59, s60, s61, s62, s63, s64, s65, s66, s67, t68], defers := ds } w') := hQ
  clear hms hG hQ hn
  clear hid
  refine wp_region_noPanic ?_
  refine wp_region_last (S := (fun w' => w'.cell? ⟨p, 5, none⟩ = some sv ∧ w'.cell? ⟨7, 0, none⟩ = some (.string (nm 7)) ∧ w'.cell? ⟨7, 1, none⟩ = some (.int .u32 264) ∧ w'.cell? ⟨7, 2, none⟩ = some (.int .u32 0) ∧ w'.cell? ⟨7, 3, none⟩ = some (.bool true) ∧ w'.cell? ⟨7, 4, none⟩ = some (.int .u8 2) ∧ w'.cell? ⟨8, 0, none⟩ = some (.string (nm 8)) ∧ w'.cell? ⟨8, 1, none⟩ = some (.int .u32 296) ∧ w'.cell? ⟨8, 2, none⟩ = some (.int .u32 0) ∧ w'.cell? ⟨8, 3, none⟩ = some (.bool true) ∧ w'.cell? ⟨8, 4, none⟩ = some (.int .u8 2) ∧ w'.cell? ⟨b0, 0, none⟩ = some (.string host) ∧ w'.cell? ⟨b0, 1, none⟩ = some (.string realm))) 17 ({ dst := none, op := Op.store 35 (Operand.tmp 67) (Operand.tmp 65), type := 0, pos := "message.go:137", after := #[{ on := 16, ground := Ground.data }, { on := 14, ground := Ground.data }, { on := 14, ground := Ground.chain }, { on := 0, ground := Ground.phase }, { on := 1, ground := Ground.phase }, { on := 2, ground := Ground.phase }, { on := 3, ground := Ground.phase }, { on := 4, ground := Ground.phase }, { on := 5, ground := Ground.phase }, { on := 6, ground := Ground.phase }, { on := 7, ground := Ground.phase }, { on := 8, ground := Ground.phase }, { on := 9, ground := Ground.phase }, { on := 10, ground := Ground.phase }, { on := 11, ground := Ground.phase }, { on := 12, ground := Ground.phase }, { on := 13, ground := Ground.phase }, { on := 14, ground := Ground.phase }], guard := none }) (by kernel_rfl) rfl (by kernel_rfl) ?hS (fun hHeld => ?_)
  case hS => exact HS.out _ (gweak (gdrew _ _) _)
  simp only [List.setIfInBounds_toArray, List.set_cons_zero, List.set_cons_succ, idle]
  refine wpAnyH_take (i := 0) (oi := ({ dst := some 51, op := Op.move (Operand.tmp 5), type := 30, pos := "message.go:137", after := #[], guard := none } : Oper)) (v := ?v0) rfl (by kernel_rfl) (by kernel_rfl) (by kernel_rfl) (fun _ _ _ h => h) (Or.inl ⟨by rfl, ?hy0⟩) (by assumption) ?rest0
  case hy0 => (intro w hSw; (try dsimp only at hSw); go_simp; try with_reducible rfl)
  (try simp only [Act.put, List.setIfInBounds_toArray, List.set_cons_zero, List.set_cons_succ])
  refine wpAnyH_take (i := 1) (oi := ({ dst := some 52, op := Op.move (Operand.tmp 5), type := 30, pos := "message.go:137", after := #[], guard := none } : Oper)) (v := ?v1) rfl (by kernel_rfl) (by kernel_rfl) (by kernel_rfl) (fun _ _ _ h => h) (Or.inl ⟨by rfl, ?hy1⟩) (by assumption) ?rest1
  case hy1 => (intro w hSw; (try dsimp only at hSw); go_simp; try with_reducible rfl)
  (try simp only [Act.put, List.setIfInBounds_toArray, List.set_cons_zero, List.set_cons_succ])
  refine wpAnyH_take (i := 2) (oi := ({ dst := some 53, op := Op.nilCheck (Operand.tmp 52), type := 0, pos := "message.go:137", after := #[{ on := 1, ground := Ground.data }], guard := none } : Oper)) (v := ?v2) rfl (by kernel_rfl) (by kernel_rfl) (by kernel_rfl) (fun _ _ _ h => h) (Or.inl ⟨by rfl, ?hy2⟩) (by assumption) ?rest2
  case hy2 => (intro w hSw; (try dsimp only at hSw); go_simp; try with_reducible rfl)
  (try simp only [Act.put, List.setIfInBounds_toArray, List.set_cons_zero, List.set_cons_succ])
  refine wpAnyH_take (i := 3) (oi := ({ dst := some 54, op := Op.fieldAddr 37 (Operand.tmp 53) 5, type := 0, pos := "message.go:137", after := #[{ on := 2, ground := Ground.data }], guard := none } : Oper)) (v := ?v3) rfl (by kernel_rfl) (by kernel_rfl) (by kernel_rfl) (fun _ _ _ h => h) (Or.inl ⟨by rfl, ?hy3⟩) (by assumption) ?rest3
  case hy3 => (intro w hSw; (try dsimp only at hSw); go_simp; try with_reducible rfl)
  (try simp only [Act.put, List.setIfInBounds_toArray, List.set_cons_zero, List.set_cons_succ])
  refine wpAnyH_take (i := 4) (oi := ({ dst := some 55, op := Op.load 35 (Operand.tmp 54), type := 35, pos := "message.go:137", after := #[{ on := 3, ground := Ground.data }], guard := none } : Oper)) (v := ?v4) rfl (by kernel_rfl) (by kernel_rfl) (by kernel_rfl) (fun _ _ _ h => h) (Or.inl ⟨by rfl, ?hy4⟩) (by assumption) ?rest4
  case hy4 => (intro w hSw; (try dsimp only at hSw); go_simp; try with_reducible rfl)
  (try simp only [Act.put, List.setIfInBounds_toArray, List.set_cons_zero, List.set_cons_succ])
  refine wpAnyH_take (i := 5) (oi := ({ dst := some 56, op := Op.load 122 (Operand.global 7), type := 122, pos := "message.go:137", after := #[], guard := none } : Oper)) (v := ?v5) rfl (by kernel_rfl) (by kernel_rfl) (by kernel_rfl) (fun _ _ _ h => h) (Or.inl ⟨by rfl, ?hy5⟩) (by assumption) ?rest5
  case hy5 => (intro w hSw; (try dsimp only at hSw); go_simp; try with_reducible rfl)
  (try simp only [Act.put, List.setIfInBounds_toArray, List.set_cons_zero, List.set_cons_succ])
  refine wpAnyH_take (i := 6) (oi := ({ dst := some 57, op := Op.fieldAddr 58 (Operand.tmp 2) 0, type := 0, pos := "message.go:137", after := #[], guard := none } : Oper)) (v := ?v6) rfl (by kernel_rfl) (by kernel_rfl) (by kernel_rfl) (fun _ _ _ h => h) (Or.inl ⟨by rfl, ?hy6⟩) (by assumption) ?rest6
  case hy6 => (intro w hSw; (try dsimp only at hSw); go_simp; try with_reducible rfl)
  (try simp only [Act.put, List.setIfInBounds_toArray, List.set_cons_zero, List.set_cons_succ])
  refine wpAnyH_take (i := 7) (oi := ({ dst := some 58, op := Op.load 9 (Operand.tmp 57), type := 9, pos := "message.go:137", after := #[{ on := 6, ground := Ground.data }], guard := none } : Oper)) (v := ?v7) rfl (by kernel_rfl) (by kernel_rfl) (by kernel_rfl) (fun _ _ _ h => h) (Or.inl ⟨by rfl, ?hy7⟩) (by assumption) ?rest7
  case hy7 => (intro w hSw; (try dsimp only at hSw); go_simp; try with_reducible rfl)
  (try simp only [Act.put, List.setIfInBounds_toArray, List.set_cons_zero, List.set_cons_succ])
  refine wpAnyH_take (i := 9) (oi := ({ dst := some 60, op := Op.load 122 (Operand.global 8), type := 122, pos := "message.go:137", after := #[], guard := none } : Oper)) (v := ?v9) rfl (by kernel_rfl) (by kernel_rfl) (by kernel_rfl) (fun _ _ _ h => h) (Or.inl ⟨by rfl, ?hy9⟩) (by assumption) ?rest9
  case hy9 => (intro w hSw; (try dsimp only at hSw); go_simp; try with_reducible rfl)
  (try simp only [Act.put, List.setIfInBounds_toArray, List.set_cons_zero, List.set_cons_succ])
  refine wpAnyH_take (i := 10) (oi := ({ dst := some 61, op := Op.fieldAddr 58 (Operand.tmp 2) 1, type := 0, pos := "message.go:137", after := #[], guard := none } : Oper)) (v := ?v10) rfl (by kernel_rfl) (by kernel_rfl) (by kernel_rfl) (fun _ _ _ h => h) (Or.inl ⟨by rfl, ?hy10⟩) (by assumption) ?rest10
  case hy10 => (intro w hSw; (try dsimp only at hSw); go_simp; try with_reducible rfl)
  (try simp only [Act.put, List.setIfInBounds_toArray, List.set_cons_zero, List.set_cons_succ])
  refine wpAnyH_take (i := 11) (oi := ({ dst := some 62, op := Op.load 9 (Operand.tmp 61), type := 9, pos := "message.go:137", after := #[{ on := 10, ground := Ground.data }], guard := none } : Oper)) (v := ?v11) rfl (by kernel_rfl) (by kernel_rfl) (by kernel_rfl) (fun _ _ _ h => h) (Or.inl ⟨by rfl, ?hy11⟩) (by assumption) ?rest11
  case hy11 => (intro w hSw; (try dsimp only at hSw); go_simp; try with_reducible rfl)
  (try simp only [Act.put, List.setIfInBounds_toArray, List.set_cons_zero, List.set_cons_succ])
  refine wpAnyH_ready (rs := [8]) (by kernel_rfl) (by simp) ?_
  refine AllReadyH.cons (o := ({ dst := some 59, op := Op.call { callee := Callee.value (Operand.func 20), args := #[Operand.tmp 56, Operand.tmp 58], argTypes := #[122, 9] }, type := 41, pos := "message.go:137", after := #[{ on := 5, ground := Ground.data }, { on := 7, ground := Ground.data }], guard := none } : Oper)) rfl (fun K hK => ?_) AllReadyH.nil
  go_simp
  refine (attrText (nm 7) 264 0 2 true host _).mono ?_
  rintro e w1 ⟨⟨da1, dl1, dc1, rfl⟩, hg1⟩
  have G1 : Hid (w.grownBy w1 none) := gtrans (gdrew _ _) hg1
  clear hg1
  refine hK.out _ _ ?hS8 (fun hHeld2 => ?_)
  case hS8 => exact HS.out _ (gweak G1.out _)
  clear hK K hHeld
  have hHeld := hHeld2
  clear hHeld2
  (try simp only [Act.put, List.setIfInBounds_toArray, List.set_cons_zero, List.set_cons_succ])
  refine wpAnyH_ready (rs := [12]) (by kernel_rfl) (by simp) ?_
  refine AllReadyH.cons (o := ({ dst := some 63, op := Op.call { callee := Callee.value (Operand.func 20), args := #[Operand.tmp 60, Operand.tmp 62], argTypes := #[122, 9] }, type := 41, pos := "message.go:137", after := #[{ on := 9, ground := Ground.data }, { on := 11, ground := Ground.data }, { on := 8, ground := Ground.chain }], guard := none } : Oper)) rfl (fun K hK => ?_) AllReadyH.nil
  go_simp
  refine (attrText (nm 8) 296 0 2 true realm _).mono ?_
  rintro e w2 ⟨⟨da2, dl2, dc2, rfl⟩, hg2⟩
  have G2 : Hid (w.grownBy w2 none) := gtrans G1.out hg2
  clear hg2
  refine hK.out _ _ ?hS12 (fun hHeld2 => ?_)
  case hS12 => exact HS.out _ (gweak G2.out _)
  clear hK K hHeld
  have hHeld := hHeld2
  clear hHeld2
  (try simp only [Act.put, List.setIfInBounds_toArray, List.set_cons_zero, List.set_cons_succ])
  refine wpAnyH_ready (rs := [13]) (by kernel_rfl) (by simp) ?_
  refine AllReadyH.cons (o := ({ dst := some 64, op := Op.buildSlice 35 2 #[(0, Operand.tmp 59), (1, Operand.tmp 63)], type := 35, pos := "message.go:137", after := #[{ on := 8, ground := Ground.data }, { on := 12, ground := Ground.data }], guard := none } : Oper)) rfl (fun K hK => ?_) AllReadyH.nil
  go_simp
  obtain ⟨wA, hwA⟩ : ∃ wA, wA = (w2.alloc (.cells (flat [(⟨264, (aflags 0 true), 0, da1, dl1, dc1⟩ : Av), (⟨296, (aflags 0 true), 0, da2, dl2, dc2⟩ : Av)]).toArray 41)) := ⟨_, rfl⟩
  have gA : Hid (w.grownBy wA none) := by show w.grownBy wA none; rw [hwA]; exact gtrans G2.out (World.grownBy_alloc _ _ _)
  have HN : Hid (∀ j u, (flat [(⟨264, (aflags 0 true), 0, da1, dl1, dc1⟩ : Av), (⟨296, (aflags 0 true), 0, da2, dl2, dc2⟩ : Av)])[j]? = some u → wA.cell? ((⟨w2.heap.size, 0, none⟩ : Addr).add j) = some u) := by
    show ∀ j u, (flat [(⟨264, (aflags 0 true), 0, da1, dl1, dc1⟩ : Av), (⟨296, (aflags 0 true), 0, da2, dl2, dc2⟩ : Av)])[j]? = some u → wA.cell? ((⟨w2.heap.size, 0, none⟩ : Addr).add j) = some u
    rw [hwA]
    exact World.news_of_block (heap_alloc_new _ _)
  have eA : (w2.alloc (.cells #[.int .u32 264, .int .u8 (aflags 0 true), .int .u32 0, .slice da1 dl1 dc1, .int .u32 296, .int .u8 (aflags 0 true), .int .u32 0, .slice da2 dl2 dc2] 41)) = wA := hwA.symm
  rw [eA]
  clear hwA eA
  refine hK.out _ _ ?hS13 (fun hHeld2 => ?_)
  case hS13 => exact HS.out _ (gweak gA.out _)
  clear hK K hHeld
  have hHeld := hHeld2
  clear hHeld2
  (try simp only [Act.put, List.setIfInBounds_toArray, List.set_cons_zero, List.set_cons_succ])
  refine wpAnyH_ready (rs := [14]) (by kernel_rfl) (by simp) ?_
  refine AllReadyH.cons (o := ({ dst := some 65, op := Op.call { callee := Callee.builtin Builtin.append, args := #[Operand.tmp 55, Operand.tmp 64], argTypes := #[35, 35] }, type := 35, pos := "message.go:137", after := #[{ on := 4, ground := Ground.data }, { on := 13, ground := Ground.data }, { on := 12, ground := Ground.chain }], guard := none } : Oper)) rfl (fun K hK => ?_) AllReadyH.nil
  have HX : Hid (avs.length + 2 ≤ maxLen ∧ B ≤ wA.heap.size ∧ (avs.length + 2) * 40 ≤ 140737488355328) := ⟨by have := HNN.out; unfold maxLen; omega, Nat.le_trans MS.out.size gA.out.size, by have := HNN.out; omega⟩
  refine step_append_lies _ rfl (.tmp 55) (.tmp 64) 35 rfl B 41 i0 (.agg #[.int .u32 0, .int .u8 0, .int .u32 0, .slice none 0 0]) 4 40 Ybad.underlying35 hi hz0 hz1 hz2 rfl (by decide) sv avs.length (flat avs) (by simp [Act.eval, Act.put]) (MS.out.grow gA.out).row ⟨w2.heap.size, 0, none⟩ 2 2 (flat [(⟨264, (aflags 0 true), 0, da1, dl1, dc1⟩ : Av), (⟨296, (aflags 0 true), 0, da2, dl2, dc2⟩ : Av)]) (by simp [Act.eval, Act.put]) rfl HN.out (flat_one _) (by decide) HX.out.1 HX.out.2.2 HX.out.2.1 _ rfl ?_
  intro gz capz wz hown4 hg4 _ _
  have HO4 : Hid (wz.ownsRow B 41 4 (.slice (some ⟨gz, 0, none⟩) (avs.length + 2) capz) (avs.length + 2) (flat avs ++ flat [(⟨264, (aflags 0 true), 0, da1, dl1, dc1⟩ : Av), (⟨296, (aflags 0 true), 0, da2, dl2, dc2⟩ : Av)])) := hown4
  have HG4 : Hid (wA.grownBy wz sv.ownBlock) := hg4
  have P4 : Hid (wz.heap[p]? = _) := gblock hg4 (MS.out.grow gA.out).box (own_ne41 (MS.out.grow gA.out).row (MS.out.grow gA.out).box (by decide))
  have q4 : wz.cell? ⟨p, 5, none⟩ = some sv := cellOf P4.out
  have z4 : wz.frozen? ⟨p, 5, none⟩ = false := frozenOf P4.out
  clear hown4 hg4
  refine hK.out _ _ ?hS14 (fun hHeld2 => ?_)
  case hS14 => exact HS.out _ (gtrans (gweak gA.out _) HG4.out)
  clear hK K hHeld
  have hHeld := hHeld2
  clear hHeld2
  (try simp only [Act.put, List.setIfInBounds_toArray, List.set_cons_zero, List.set_cons_succ])
  refine wpAnyH_take (i := 15) (oi := ({ dst := some 66, op := Op.nilCheck (Operand.tmp 51), type := 0, pos := "message.go:137", after := #[{ on := 0, ground := Ground.data }, { on := 0, ground := Ground.phase }, { on := 1, ground := Ground.phase }, { on := 2, ground := Ground.phase }, { on := 3, ground := Ground.phase }, { on := 4, ground := Ground.phase }, { on := 5, ground := Ground.phase }, { on := 6, ground := Ground.phase }, { on := 7, ground := Ground.phase }, { on := 8, ground := Ground.phase }, { on := 9, ground := Ground.phase }, { on := 10, ground := Ground.phase }, { on := 11, ground := Ground.phase }, { on := 12, ground := Ground.phase }, { on := 13, ground := Ground.phase }, { on := 14, ground := Ground.phase }], guard := none } : Oper)) (v := ?v15) rfl (by kernel_rfl) (by kernel_rfl) (by kernel_rfl) (fun _ _ _ h => h) (Or.inl ⟨by rfl, ?hy15⟩) (by assumption) ?rest15
  case hy15 => (intro w hSw; (try dsimp only at hSw); go_simp; try with_reducible rfl)
  (try simp only [Act.put, List.setIfInBounds_toArray, List.set_cons_zero, List.set_cons_succ])
  refine wpAnyH_take (i := 16) (oi := ({ dst := some 67, op := Op.fieldAddr 37 (Operand.tmp 66) 5, type := 0, pos := "message.go:137", after := #[{ on := 15, ground := Ground.data }, { on := 0, ground := Ground.phase }, { on := 1, ground := Ground.phase }, { on := 2, ground := Ground.phase }, { on := 3, ground := Ground.phase }, { on := 4, ground := Ground.phase }, { on := 5, ground := Ground.phase }, { on := 6, ground := Ground.phase }, { on := 7, ground := Ground.phase }, { on := 8, ground := Ground.phase }, { on := 9, ground := Ground.phase }, { on := 10, ground := Ground.phase }, { on := 11, ground := Ground.phase }, { on := 12, ground := Ground.phase }, { on := 13, ground := Ground.phase }, { on := 14, ground := Ground.phase }], guard := none } : Oper)) (v := ?v16) rfl (by kernel_rfl) (by kernel_rfl) (by kernel_rfl) (fun _ _ _ h => h) (Or.inl ⟨by rfl, ?hy16⟩) (by assumption) ?rest16
  case hy16 => (intro w hSw; (try dsimp only at hSw); go_simp; try with_reducible rfl)
  (try simp only [Act.put, List.setIfInBounds_toArray, List.set_cons_zero, List.set_cons_succ])
  refine wpAnyH_take (i := 17) (oi := ({ dst := none, op := Op.move (Operand.const (Value.bool true)), type := 0, pos := "message.go:137", after := #[{ on := 16, ground := Ground.data }, { on := 14, ground := Ground.data }, { on := 14, ground := Ground.chain }, { on := 0, ground := Ground.phase }, { on := 1, ground := Ground.phase }, { on := 2, ground := Ground.phase }, { on := 3, ground := Ground.phase }, { on := 4, ground := Ground.phase }, { on := 5, ground := Ground.phase }, { on := 6, ground := Ground.phase }, { on := 7, ground := Ground.phase }, { on := 8, ground := Ground.phase }, { on := 9, ground := Ground.phase }, { on := 10, ground := Ground.phase }, { on := 11, ground := Ground.phase }, { on := 12, ground := Ground.phase }, { on := 13, ground := Ground.phase }, { on := 14, ground := Ground.phase }], guard := none } : Oper)) (v := ?v17) rfl (by kernel_rfl) (by kernel_rfl) (by kernel_rfl) (fun _ _ _ h => h) (Or.inl ⟨by rfl, ?hy17⟩) (by assumption) ?rest17
  case hy17 => (intro w hSw; (try dsimp only at hSw); go_simp; try with_reducible rfl)
  (try simp only [Act.put, List.setIfInBounds_toArray, List.set_cons_zero, List.set_cons_succ])
  refine wpAnyH_done (by kernel_rfl) ?_ _
  simp only [afterLast]
  refine wpOp_step (i := 17) (o := ({ dst := none, op := Op.store 35 (Operand.tmp 67) (Operand.tmp 65), type := 0, pos := "message.go:137", after := #[{ on := 16, ground := Ground.data }, { on := 14, ground := Ground.data }, { on := 14, ground := Ground.chain }, { on := 0, ground := Ground.phase }, { on := 1, ground := Ground.phase }, { on := 2, ground := Ground.phase }, { on := 3, ground := Ground.phase }, { on := 4, ground := Ground.phase }, { on := 5, ground := Ground.phase }, { on := 6, ground := Ground.phase }, { on := 7, ground := Ground.phase }, { on := 8, ground := Ground.phase }, { on := 9, ground := Ground.phase }, { on := 10, ground := Ground.phase }, { on := 11, ground := Ground.phase }, { on := 12, ground := Ground.phase }, { on := 13, ground := Ground.phase }, { on := 14, ground := Ground.phase }], guard := none } : Oper)) rfl (fun K hK => ?_)
  go_simp
  exact hK _ _ (NoPanic.normal (HQ.out _ _ _ _ _ _ _ _ _ _ _ _ _ _ _ _ _ _ _ _ rfl rfl (app_post MS.out gA.out HO4.out HG4.out)))
end Go.Proofs.YbulkaptmDoor
