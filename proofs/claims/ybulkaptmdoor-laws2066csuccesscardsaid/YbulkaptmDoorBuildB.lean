/-
  build: the connection's box.
-/
import Derived.Test.YbulkaptmDoorFrom
namespace Go.Proofs.YbulkaptmDoor
open Go.RowKit
set_option linter.unusedVariables false
set_option linter.unusedSimpArgs false
set_option maxRecDepth 100000

set_option maxHeartbeats 6400000 in
theorem build_r8 {Q : Exit → Act → World → Prop} {ds : List Deferred} {t0 t2 t3 t4 t5 t6 t8 t9 t10 t11 t12 t13 t14 t15 t16 t17 t18 t19 t20 t21 t22 t23 t24 t25 t26 t27 t28 t29 t30 t31 t32 t33 t34 t35 t36 t37 t38 t39 t40 t41 t42 t43 t44 t45 t46 t47 t48 t49 t50 t51 t52 t53 t54 t55 t56 t57 t58 t59 t60 t61 t62 t63 t64 t65 t66 t67 t68 t69 t70 t71 t72 t73 t74 t75 t76 t77 t78 t79 t80 t81 t82 t83 t84 t85 t86 t87 : Value} {w : World} {b s : Nat} {fl cmd app hop ete : Int} {ws : Bool} {sa : Option Addr} {sl sc : Nat} {host realm prod : ByteArray} {st i0 i1 i2 i3 port : Int} {ia : Option Addr} {il ic : Nat} {va : Option Addr} {vl vc : Nat} {z : Addr}
    (hin : w.heap[b]? = some (.cells #[.int .u8 fl, .int .u32 cmd, .int .u32 app, .int .u32 hop, .int .u32 ete, .bool ws, .slice sa sl sc, .string host, .string realm, .string prod, .int .u32 st, .int .u8 i0, .int .u8 i1, .int .u8 i2, .int .u8 i3, .int .u16 port, .slice ia il ic, .slice va vl vc] 28 (0, 0))) (hz : Zs w z) (hr : (0 ≤ i0 ∧ i0 ≤ 255) ∧ (0 ≤ i1 ∧ i1 ≤ 255) ∧ (0 ≤ i2 ∧ i2 ≤ 255) ∧ (0 ≤ i3 ∧ i3 ≤ 255))
    (hQ : ∀ (s47 s48 s49 s50 s51 s52 s53 s54 s55 : Value) (c : Nat) (lo : Int) (w' : World), (Lit.int .u64 lo).wf = true → w.grownBy w' none → (∃ cc, w'.heap[c]? = some (.cells cc 117 (0, 0)) ∧ cc[0]? = some (.pointer (some ⟨s, 0, none⟩)) ∧ cc[3]? = some (.int .u64 0) ∧ cc[4]? = some (.int .u64 lo) ∧ cc[5]? = some (.pointer (some z)) ∧ cc[6]? = some (.int .u16 port)) → Q .normal { tmps := #[t0, (.pointer (some ⟨b, 0, none⟩)), t2, t3, t4, t5, t6, (.pointer (some ⟨s, 0, none⟩)), (.pointer (some ⟨c, 0, none⟩)), t9, t10, t11, t12, t13, t14, t15, t16, t17, t18, t19, t20, t21, t22, t23, t24, t25, t26, t27, t28, t29, t30, t31, t32, t33, t34, t35, t36, t37, t38, t39, t40, t41, t42, t43, t44, t45, t46, s47, s48, s49, s50, s51, s52, s53, s54, s55, t56, t57, t58, t59, t60, t61, t62, t63, t64, t65, t66, t67, t68, t69, t70, t71, t72, t73, t74, t75, t76, t77, t78, t79, t80, t81, t82, t83, t84, t85, t86, t87], defers := ds } w') :
    (Code.region 8 #[{ dst := some 47, op := Op.move (Operand.tmp 7), type := 56, pos := "zz_law_s2066c.go:42", after := #[], guard := none }, { dst := some 48, op := Op.fieldAddr 28 (Operand.tmp 1) 11, type := 0, pos := "zz_law_s2066c.go:42", after := #[], guard := none }, { dst := some 49, op := Op.load 24 (Operand.tmp 48), type := 24, pos := "zz_law_s2066c.go:42", after := #[{ on := 1, ground := Ground.data }], guard := none }, { dst := some 50, op := Op.call { callee := Callee.value (Operand.func 14), args := #[Operand.tmp 49], argTypes := #[24] }, type := 95, pos := "zz_law_s2066c.go:42", after := #[{ on := 2, ground := Ground.data }], guard := none }, { dst := some 51, op := Op.fieldAddr 28 (Operand.tmp 1) 12, type := 0, pos := "zz_law_s2066c.go:42", after := #[], guard := none }, { dst := some 52, op := Op.load 25 (Operand.tmp 51), type := 25, pos := "zz_law_s2066c.go:42", after := #[{ on := 4, ground := Ground.data }], guard := none }, { dst := some 53, op := Op.call { callee := Callee.value (Operand.func 13), args := #[Operand.tmp 50, Operand.tmp 52], argTypes := #[95, 25] }, type := 97, pos := "zz_law_s2066c.go:42", after := #[{ on := 3, ground := Ground.data }, { on := 5, ground := Ground.data }, { on := 3, ground := Ground.chain }], guard := none }, { dst := some 54, op := Op.build 117 #[(0, Operand.tmp 47), (3, Operand.tmp 53)], type := 117, pos := "zz_law_s2066c.go:42", after := #[{ on := 0, ground := Ground.data }, { on := 6, ground := Ground.data }], guard := none }, { dst := some 55, op := Op.box 117 (Operand.tmp 54), type := 29, pos := "zz_law_s2066c.go:42", after := #[{ on := 7, ground := Ground.data }], guard := none }, { dst := some 8, op := Op.assign (Operand.tmp 55), type := 29, pos := "zz_law_s2066c.go:42", after := #[{ on := 8, ground := Ground.data }, { on := 6, ground := Ground.chain }, { on := 0, ground := Ground.phase }, { on := 1, ground := Ground.phase }, { on := 2, ground := Ground.phase }, { on := 3, ground := Ground.phase }, { on := 4, ground := Ground.phase }, { on := 5, ground := Ground.phase }, { on := 6, ground := Ground.phase }, { on := 7, ground := Ground.phase }, { on := 8, ground := Ground.phase }], guard := none }] true).wp Ybad.prog Q { tmps := #[t0, (.pointer (some ⟨b, 0, none⟩)), t2, t3, t4, t5, t6, (.pointer (some ⟨s, 0, none⟩)), t8, t9, t10, t11, t12, t13, t14, t15, t16, t17, t18, t19, t20, t21, t22, t23, t24, t25, t26, t27, t28, t29, t30, t31, t32, t33, t34, t35, t36, t37, t38, t39, t40, t41, t42, t43, t44, t45, t46, t47, t48, t49, t50, t51, t52, t53, t54, t55, t56, t57, t58, t59, t60, t61, t62, t63, t64, t65, t66, t67, t68, t69, t70, t71, t72, t73, t74, t75, t76, t77, t78, t79, t80, t81, t82, t83, t84, t85, t86, t87], defers := ds } w := by
  have HS : Hid (∀ w', w.grownBy w' none → (fun w' => w'.cell? ⟨b, 11, none⟩ = some (.int .u8 i0) ∧ w'.cell? ⟨b, 12, none⟩ = some (.int .u8 i1) ∧ w'.cell? ⟨b, 13, none⟩ = some (.int .u8 i2) ∧ w'.cell? ⟨b, 14, none⟩ = some (.int .u8 i3) ∧ w'.cell? ⟨b, 15, none⟩ = some (.int .u16 port)) w') := by
    show ∀ w', w.grownBy w' none → (fun w' => w'.cell? ⟨b, 11, none⟩ = some (.int .u8 i0) ∧ w'.cell? ⟨b, 12, none⟩ = some (.int .u8 i1) ∧ w'.cell? ⟨b, 13, none⟩ = some (.int .u8 i2) ∧ w'.cell? ⟨b, 14, none⟩ = some (.int .u8 i3) ∧ w'.cell? ⟨b, 15, none⟩ = some (.int .u16 port)) w'
    intro w' hg
    have hb := gblockN hg hin
    exact ⟨cellOf hb, cellOf hb, cellOf hb, cellOf hb, cellOf hb⟩
  have HZ : Hid (Zs w z) := hz
  have HR : Hid ((0 ≤ i0 ∧ i0 ≤ 255) ∧ (0 ≤ i1 ∧ i1 ≤ 255) ∧ (0 ≤ i2 ∧ i2 ≤ 255) ∧ (0 ≤ i3 ∧ i3 ≤ 255)) := hr
  clear hin hz hr
  have HQ : Hid (∀ (s47 s48 s49 s50 s51 s52 s53 s54 s55 : Value) (c : Nat) (lo : Int) (w' : World), (Lit.int .u64 lo).wf = true → w.grownBy w' none → (∃ cc, w'.heap[c]? = some (.cells cc 117 (0, 0)) ∧ cc[0]? = some (.pointer (some ⟨s, 0, none⟩)) ∧ cc[3]? = some (.int .u64 0) ∧ cc[4]? = some (.int .u64 lo) ∧ cc[5]? = some (.pointer (some z)) ∧ cc[6]? = some (.int .u16 port)) → Q .normal { tmps := #[t0, (.pointer (some ⟨b, 0, none⟩)), t2, t3, t4, t5, t6, (.pointer (some ⟨s, 0, none⟩)), (.pointer (some ⟨c, 0, none⟩)), t9, t10, t11, t12, t13, t14, t15, t16, t17, t18, t19, t20, t21, t22, t23, t24, t25, t26, t27, t28, t29, t30, t31, t32, t33, t34, t35, t36, t37, t38, t39, t40, t41, t42, t43, t44, t45, t46, s47, s48, s49, s50, s51, s52, s53, s54, s55, t56, t57, t58, t59, t60, t61, t62, t63, t64, t65, t66, t67, t68, t69, t70, t71, t72, t73, t74, t75, t76, t77, t78, t79, t80, t81, t82, t83, t84, t85, t86, t87], defers := ds } w') := hQ
  clear hQ
  refine wp_region_noPanic ?_
  refine wp_region_held_drew (S := (fun w' => w'.cell? ⟨b, 11, none⟩ = some (.int .u8 i0) ∧ w'.cell? ⟨b, 12, none⟩ = some (.int .u8 i1) ∧ w'.cell? ⟨b, 13, none⟩ = some (.int .u8 i2) ∧ w'.cell? ⟨b, 14, none⟩ = some (.int .u8 i3) ∧ w'.cell? ⟨b, 15, none⟩ = some (.int .u16 port))) (by kernel_rfl) ?hS (fun hHeld => ?_)
  case hS => exact HS.out _ (gdrew _ _)
  refine wpAnyH_take (i := 0) (oi := ({ dst := some 47, op := Op.move (Operand.tmp 7), type := 56, pos := "zz_law_s2066c.go:42", after := #[], guard := none } : Oper)) (v := ?v0) rfl (by kernel_rfl) (by kernel_rfl) (by kernel_rfl) (fun _ _ _ h => h) (Or.inl ⟨by rfl, ?hy0⟩) (by assumption) ?rest0
  case hy0 => (intro w hSw; (try dsimp only at hSw); go_simp; try (first | with_reducible rfl | decide))
  (try simp only [Act.put, List.setIfInBounds_toArray, List.set_cons_zero, List.set_cons_succ])
  refine wpAnyH_take (i := 1) (oi := ({ dst := some 48, op := Op.fieldAddr 28 (Operand.tmp 1) 11, type := 0, pos := "zz_law_s2066c.go:42", after := #[], guard := none } : Oper)) (v := ?v1) rfl (by kernel_rfl) (by kernel_rfl) (by kernel_rfl) (fun _ _ _ h => h) (Or.inl ⟨by rfl, ?hy1⟩) (by assumption) ?rest1
  case hy1 => (intro w hSw; (try dsimp only at hSw); go_simp; try (first | with_reducible rfl | decide))
  (try simp only [Act.put, List.setIfInBounds_toArray, List.set_cons_zero, List.set_cons_succ])
  refine wpAnyH_take (i := 2) (oi := ({ dst := some 49, op := Op.load 24 (Operand.tmp 48), type := 24, pos := "zz_law_s2066c.go:42", after := #[{ on := 1, ground := Ground.data }], guard := none } : Oper)) (v := ?v2) rfl (by kernel_rfl) (by kernel_rfl) (by kernel_rfl) (fun _ _ _ h => h) (Or.inl ⟨by rfl, ?hy2⟩) (by assumption) ?rest2
  case hy2 => (intro w hSw; (try dsimp only at hSw); go_simp; try (first | with_reducible rfl | decide))
  (try simp only [Act.put, List.setIfInBounds_toArray, List.set_cons_zero, List.set_cons_succ])
  refine wpAnyH_take (i := 4) (oi := ({ dst := some 51, op := Op.fieldAddr 28 (Operand.tmp 1) 12, type := 0, pos := "zz_law_s2066c.go:42", after := #[], guard := none } : Oper)) (v := ?v4) rfl (by kernel_rfl) (by kernel_rfl) (by kernel_rfl) (fun _ _ _ h => h) (Or.inl ⟨by rfl, ?hy4⟩) (by assumption) ?rest4
  case hy4 => (intro w hSw; (try dsimp only at hSw); go_simp; try (first | with_reducible rfl | decide))
  (try simp only [Act.put, List.setIfInBounds_toArray, List.set_cons_zero, List.set_cons_succ])
  refine wpAnyH_take (i := 5) (oi := ({ dst := some 52, op := Op.load 25 (Operand.tmp 51), type := 25, pos := "zz_law_s2066c.go:42", after := #[{ on := 4, ground := Ground.data }], guard := none } : Oper)) (v := ?v5) rfl (by kernel_rfl) (by kernel_rfl) (by kernel_rfl) (fun _ _ _ h => h) (Or.inl ⟨by rfl, ?hy5⟩) (by assumption) ?rest5
  case hy5 => (intro w hSw; (try dsimp only at hSw); go_simp; try (first | with_reducible rfl | decide))
  (try simp only [Act.put, List.setIfInBounds_toArray, List.set_cons_zero, List.set_cons_succ])
  refine wpAnyH_ready (rs := [3]) (by kernel_rfl) (by simp) ?_
  refine AllReadyH.cons (o := ({ dst := some 50, op := Op.call { callee := Callee.value (Operand.func 14), args := #[Operand.tmp 49], argTypes := #[24] }, type := 95, pos := "zz_law_s2066c.go:42", after := #[{ on := 2, ground := Ground.data }], guard := none } : Oper)) rfl (fun K hK => ?_) AllReadyH.nil
  go_simp
  refine (from4_rng i0 i1 i2 i3 HR.out.1 HR.out.2.1 HR.out.2.2.1 HR.out.2.2.2 z _ (HZ.out.grow (gdrew _ _))).mono ?_
  rintro e w1 ⟨⟨lo, rfl, hlo⟩, hg1⟩
  have G1 : Hid (w.grownBy w1 none) := gtrans (gdrew _ _) hg1
  have HL : Hid ((Lit.int .u64 lo).wf = true) := hlo
  clear hg1 hlo
  refine hK.out _ _ ?hS3 (fun hHeld2 => ?_)
  case hS3 => exact HS.out _ G1.out
  clear hK K hHeld
  have hHeld := hHeld2
  clear hHeld2
  (try simp only [Act.put, List.setIfInBounds_toArray, List.set_cons_zero, List.set_cons_succ])
  refine wpAnyH_ready (rs := [6]) (by kernel_rfl) (by simp) ?_
  refine AllReadyH.cons (o := ({ dst := some 53, op := Op.call { callee := Callee.value (Operand.func 13), args := #[Operand.tmp 50, Operand.tmp 52], argTypes := #[95, 25] }, type := 97, pos := "zz_law_s2066c.go:42", after := #[{ on := 3, ground := Ground.data }, { on := 5, ground := Ground.data }, { on := 3, ground := Ground.chain }], guard := none } : Oper)) rfl (fun K hK => ?_) AllReadyH.nil
  go_simp
  refine (addrPort_any 0 lo port z _).mono ?_
  rintro e w2 ⟨rfl, hg2⟩
  have G2 : Hid (w.grownBy w2 none) := gtrans G1.out hg2
  clear hg2
  refine hK.out _ _ ?hS6 (fun hHeld2 => ?_)
  case hS6 => exact HS.out _ G2.out
  clear hK K hHeld
  have hHeld := hHeld2
  clear hHeld2
  (try simp only [Act.put, List.setIfInBounds_toArray, List.set_cons_zero, List.set_cons_succ])
  refine wpAnyH_take (i := 7) (oi := ({ dst := some 54, op := Op.build 117 #[(0, Operand.tmp 47), (3, Operand.tmp 53)], type := 117, pos := "zz_law_s2066c.go:42", after := #[{ on := 0, ground := Ground.data }, { on := 6, ground := Ground.data }], guard := none } : Oper)) (v := ?v7) rfl (by kernel_rfl) (by kernel_rfl) (by kernel_rfl) (fun _ _ _ h => h) (Or.inl ⟨by rfl, ?hy7⟩) (by assumption) ?rest7
  case hy7 => (intro w hSw; (try dsimp only at hSw); go_simp; try (first | with_reducible rfl | decide))
  (try simp only [Act.put, List.setIfInBounds_toArray, List.set_cons_zero, List.set_cons_succ])
  refine wpAnyH_ready (rs := [8]) (by kernel_rfl) (by simp) ?_
  refine AllReadyH.cons (o := ({ dst := some 55, op := Op.box 117 (Operand.tmp 54), type := 29, pos := "zz_law_s2066c.go:42", after := #[{ on := 7, ground := Ground.data }], guard := none } : Oper)) rfl (fun K hK => ?_) AllReadyH.nil
  go_simp
  obtain ⟨w3, hw3⟩ : ∃ w3, w3 = w2.alloc (.cells #[.pointer (some ⟨s, 0, none⟩), .nilIface, .pointer none, .int .u64 0, .int .u64 lo, .pointer (some z), .int .u16 port, .int .u64 0, .int .u64 0, .pointer none, .int .u16 0, .pointer none, .nilIface, .nilFunc, .chan none, .chan none, .int .u64 0, .int .u32 0, .int .i32 0, .int .i32 0, .int .u32 0, .slice none 0 0, .slice none 0 0, .bool false, .int .i32 0, .int .u32 0, .int .u8 0, .string { data := #[] }, .bool false, .bool false, .map none, .map none] 117) := ⟨_, rfl⟩
  rw [← hw3]
  have G3 : Hid (w.grownBy w3 none) := by show w.grownBy w3 none; rw [hw3]; exact gtrans G2.out (World.grownBy_alloc _ _ _)
  have C3 : Hid (∃ cc, w3.heap[w2.heap.size]? = some (.cells cc 117 (0, 0)) ∧ cc[0]? = some (.pointer (some ⟨s, 0, none⟩)) ∧ cc[3]? = some (.int .u64 0) ∧ cc[4]? = some (.int .u64 lo) ∧ cc[5]? = some (.pointer (some z)) ∧ cc[6]? = some (.int .u16 port)) := by
    show (∃ cc, w3.heap[w2.heap.size]? = some (.cells cc 117 (0, 0)) ∧ cc[0]? = some (.pointer (some ⟨s, 0, none⟩)) ∧ cc[3]? = some (.int .u64 0) ∧ cc[4]? = some (.int .u64 lo) ∧ cc[5]? = some (.pointer (some z)) ∧ cc[6]? = some (.int .u16 port))
    rw [hw3]
    exact ⟨_, heap_alloc_new _ _, rfl, rfl, rfl, rfl, rfl⟩
  clear hw3
  refine hK.out _ _ ?hS8 (fun hHeld2 => ?_)
  case hS8 => exact HS.out _ G3.out
  clear hK K hHeld
  have hHeld := hHeld2
  clear hHeld2
  (try simp only [Act.put, List.setIfInBounds_toArray, List.set_cons_zero, List.set_cons_succ])
  refine wpAnyH_take (i := 9) (oi := ({ dst := some 8, op := Op.assign (Operand.tmp 55), type := 29, pos := "zz_law_s2066c.go:42", after := #[{ on := 8, ground := Ground.data }, { on := 6, ground := Ground.chain }, { on := 0, ground := Ground.phase }, { on := 1, ground := Ground.phase }, { on := 2, ground := Ground.phase }, { on := 3, ground := Ground.phase }, { on := 4, ground := Ground.phase }, { on := 5, ground := Ground.phase }, { on := 6, ground := Ground.phase }, { on := 7, ground := Ground.phase }, { on := 8, ground := Ground.phase }], guard := none } : Oper)) (v := ?v9) rfl (by kernel_rfl) (by kernel_rfl) (by kernel_rfl) (fun _ _ _ h => h) (Or.inl ⟨by rfl, ?hy9⟩) (by assumption) ?rest9
  case hy9 => (intro w hSw; (try dsimp only at hSw); go_simp; try (first | with_reducible rfl | decide))
  (try simp only [Act.put, List.setIfInBounds_toArray, List.set_cons_zero, List.set_cons_succ])
  refine wpAnyH_done (by kernel_rfl) ?_ _
  exact NoPanic.normal (HQ.out _ _ _ _ _ _ _ _ _ _ _ _ HL.out G3.out C3.out)
end Go.Proofs.YbulkaptmDoor
