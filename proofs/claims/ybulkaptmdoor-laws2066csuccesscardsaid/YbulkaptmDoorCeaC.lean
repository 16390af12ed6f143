/-
  cea: the applications of a success.
-/
import Derived.Test.YbulkaptmDoorSpec
import Derived.Test.YbulkaptmDoorBuild
namespace Go.Proofs.YbulkaptmDoor
open Go.RowKit
set_option linter.unusedVariables false
set_option linter.unusedSimpArgs false
set_option maxRecDepth 100000

theorem run_append_empty (w : World) (ty : TypeId) (g L cap : Nat) (xo : Option Addr) (xc : Nat) (h : L ≤ cap) : (Builtin.append_ #[35, 35] ty #[.slice (some ⟨g, 0, none⟩) L cap, .slice xo 0 xc]).run Ybad.prog w = .ok (.slice (some ⟨g, 0, none⟩) L cap) w := by
  have h41 := Ybad.sizeOf41 w
  cases xo <;> simp [Builtin.append_, run_underlying Ybad.underlying35, h41, Builtin.lenOf, Builtin.firstCells, h, storeCells, loadCells, loadCellsFrom]
theorem step_append_empty {ops : Array Oper} {o : Oper} {a : Act} {w : World} {K : Act → World → Prop} {Q : Exit → Act → World → Prop} {E : Prop} (hgd : o.guard = none) (s x : Operand)
    (ho : o.op = .call { callee := .builtin .append, args := #[s, x], argTypes := #[35, 35] }) (g L cap : Nat) (xo : Option Addr) (xc : Nat) (hs : a.eval s = .slice (some ⟨g, 0, none⟩) L cap) (hx : a.eval x = .slice xo 0 xc) (h : L ≤ cap)
    (hK : K (a.put o.dst (.slice (some ⟨g, 0, none⟩) L cap)) w) : if Region.wanted o (yielded ops a.tmps) = true then Oper.wp Ybad.prog o a w K Q else E := by
  have hw : Region.wanted o (yielded ops a.tmps) = true := by simp [Region.wanted, hgd]
  rw [if_pos hw]
  unfold Oper.wp execOp
  simp only [ho, resolve, invoke, builtin, Sem.run_bind, Sem.run_pure, Result.andThen_ok, List.map_toArray, List.map_cons, List.map_nil, hs, hx, run_append_empty w o.type g L cap xo xc h]
  exact hK
theorem AvsOk.pos {w : World} {a : List Av} {s : List Sp} (h : AvsOk w a s) (hs : s ≠ []) : 0 < a.length := by
  have := h.len
  have h2 : s.length ≠ 0 := fun h0 => hs (List.eq_nil_of_length_eq_zero h0)
  omega
theorem own_cap {w : World} {B e s n g m cap : Nat} {xs : List Value} (h : w.ownsRow B e s (.slice (some ⟨g, 0, none⟩) m cap) n xs) : m ≤ cap := by
  rcases h.2 with ⟨h1, _⟩ | ⟨g', cap', cur, h1, _, _, h2, _⟩
  · cases h1
  · cases h1; exact h2

set_option maxHeartbeats 3200000 in
theorem cea_r7_some {Q : Exit → Act → World → Prop} {ds : List Deferred} {t1 t2 t3 t4 t5 t6 t8 t9 t10 t11 t12 t13 t14 t15 t16 t17 t18 t19 t20 t21 t22 t23 t24 t25 t26 t27 t28 t29 t30 t31 t32 t33 t34 t35 t36 t37 t38 t39 t40 t41 t42 t43 t44 t45 t46 t47 t48 t49 t50 t51 t52 t53 t54 t55 t56 t57 t58 t59 t60 t61 t62 t63 t64 t65 t66 t67 t68 t69 t70 t71 t72 t73 t74 t75 t76 t77 t78 t79 t80 t81 t82 t83 t84 : Value} {w : World} {B p c0 s0 : Nat} {fl cmd app hop ete : Int} {sv : Value} {avs : List Av} {ss : List Sp}
    (hms : MsgSt w B p fl cmd app hop ete sv avs) (hn : avs.length ≤ 100000) (hne : avs ≠ []) (hss : ss ≠ []) (hsl : ss.length ≤ 100000) (hc0 : ∃ cc, w.heap[c0]? = some (.cells cc 117 (0, 0)) ∧ cc[0]? = some (.pointer (some ⟨s0, 0, none⟩)))
    (hcall : ∀ w1, w.grownBy w1 none → Calls Ybad.prog 21 #[.pointer (some ⟨s0, 0, none⟩)] w1 fun e w2 => (∃ sv2 avs2, e = .returned sv2 ∧ w2.ownsRow w1.heap.size 41 4 sv2 avs2.length (flat avs2) ∧ AvsOk w2 avs2 ss) ∧ w1.grownBy w2 none)
    (hQ : ∀ (s71 s72 s73 s74 s75 s76 s77 s78 s79 s80 s81 s82 s83 : Value) (w' : World) (news : List Av), AvsOk w' news ss → AppPost w B p fl cmd app hop ete avs news w' → Q .normal { tmps := #[(.pointer (some ⟨c0, 0, none⟩)), t1, t2, t3, t4, t5, t6, (.pointer (some ⟨p, 0, none⟩)), t8, t9, t10, t11, t12, t13, t14, t15, t16, t17, t18, t19, t20, t21, t22, t23, t24, t25, t26, t27, t28, t29, t30, t31, t32, t33, t34, t35, t36, t37, t38, t39, t40, t41, t42, t43, t44, t45, t46, t47, t48, t49, t50, t51, t52, t53, t54, t55, t56, t57, t58, t59, t60, t61, t62, t63, t64, t65, t66, t67, t68, t69, t70, s71, s72, s73, s74, s75, s76, s77, s78, s79, s80, s81, s82, s83, t84], defers := ds } w') :
    (Code.region 7 #[{ dst := some 71, op := Op.move (Operand.tmp 7), type := 30, pos := "conn.go:243", after := #[], guard := none }, { dst := some 72, op := Op.move (Operand.tmp 7), type := 30, pos := "conn.go:243", after := #[], guard := none }, { dst := some 73, op := Op.nilCheck (Operand.tmp 72), type := 0, pos := "conn.go:243", after := #[{ on := 1, ground := Ground.data }], guard := none }, { dst := some 74, op := Op.fieldAddr 37 (Operand.tmp 73) 5, type := 0, pos := "conn.go:243", after := #[{ on := 2, ground := Ground.data }], guard := none }, { dst := some 75, op := Op.load 35 (Operand.tmp 74), type := 35, pos := "conn.go:243", after := #[{ on := 3, ground := Ground.data }], guard := none }, { dst := some 76, op := Op.move (Operand.tmp 0), type := 29, pos := "conn.go:243", after := #[], guard := none }, { dst := some 77, op := Op.nilCheck (Operand.tmp 76), type := 0, pos := "conn.go:243", after := #[{ on := 5, ground := Ground.data }], guard := none }, { dst := some 78, op := Op.fieldAddr 117 (Operand.tmp 77) 0, type := 0, pos := "conn.go:243", after := #[{ on := 6, ground := Ground.data }], guard := none }, { dst := some 79, op := Op.load 56 (Operand.tmp 78), type := 56, pos := "conn.go:243", after := #[{ on := 7, ground := Ground.data }], guard := none }, { dst := some 80, op := Op.call { callee := Callee.value (Operand.func 21), args := #[Operand.tmp 79], argTypes := #[56] }, type := 35, pos := "conn.go:243", after := #[{ on := 8, ground := Ground.data }], guard := none }, { dst := some 81, op := Op.call { callee := Callee.builtin Builtin.append, args := #[Operand.tmp 75, Operand.tmp 80], argTypes := #[35, 35] }, type := 35, pos := "conn.go:243", after := #[{ on := 4, ground := Ground.data }, { on := 9, ground := Ground.data }, { on := 9, ground := Ground.chain }], guard := none }, { dst := some 82, op := Op.nilCheck (Operand.tmp 71), type := 0, pos := "conn.go:243", after := #[{ on := 0, ground := Ground.data }, { on := 0, ground := Ground.phase }, { on := 1, ground := Ground.phase }, { on := 2, ground := Ground.phase }, { on := 3, ground := Ground.phase }, { on := 4, ground := Ground.phase }, { on := 5, ground := Ground.phase }, { on := 6, ground := Ground.phase }, { on := 7, ground := Ground.phase }, { on := 8, ground := Ground.phase }, { on := 9, ground := Ground.phase }, { on := 10, ground := Ground.phase }], guard := none }, { dst := some 83, op := Op.fieldAddr 37 (Operand.tmp 82) 5, type := 0, pos := "conn.go:243", after := #[{ on := 11, ground := Ground.data }, { on := 0, ground := Ground.phase }, { on := 1, ground := Ground.phase }, { on := 2, ground := Ground.phase }, { on := 3, ground := Ground.phase }, { on := 4, ground := Ground.phase }, { on := 5, ground := Ground.phase }, { on := 6, ground := Ground.phase }, { on := 7, ground := Ground.phase }, { on := 8, ground := Ground.phase }, { on := 9, ground := Ground.phase }, { on := 10, ground := Ground.phase }], guard := none }, { dst := none, op := Op.store 35 (Operand.tmp 83) (Operand.tmp 81), type := 0, pos := "conn.go:243", after := #[{ on := 12, ground := Ground.data }, { on := 10, ground := Ground.data }, { on := 10, ground := Ground.chain }, { on := 0, ground := Ground.phase }, { on := 1, ground := Ground.phase }, { on := 2, ground := Ground.phase }, { on := 3, ground := Ground.phase }, { on := 4, ground := Ground.phase }, { on := 5, ground := Ground.phase }, { on := 6, ground := Ground.phase }, { on := 7, ground := Ground.phase }, { on := 8, ground := Ground.phase }, { on := 9, ground := Ground.phase }, { on := 10, ground := Ground.phase }], guard := none }] true).wp Ybad.prog Q { tmps := #[(.pointer (some ⟨c0, 0, none⟩)), t1, t2, t3, t4, t5, t6, (.pointer (some ⟨p, 0, none⟩)), t8, t9, t10, t11, t12, t13, t14, t15, t16, t17, t18, t19, t20, t21, t22, t23, t24, t25, t26, t27, t28, t29, t30, t31, t32, t33, t34, t35, t36, t37, t38, t39, t40, t41, t42, t43, t44, t45, t46, t47, t48, t49, t50, t51, t52, t53, t54, t55, t56, t57, t58, t59, t60, t61, t62, t63, t64, t65, t66, t67, t68, t69, t70, t71, t72, t73, t74, t75, t76, t77, t78, t79, t80, t81, t82, t83, t84], defers := ds } w := by
  obtain ⟨i0, hi, hz0, hz1, hz2⟩ := info_parts info41
  have MS : Hid (MsgSt w B p fl cmd app hop ete sv avs) := hms
  have HNN : Hid (avs.length ≤ 100000 ∧ ss.length ≤ 100000 ∧ avs ≠ []) := ⟨hn, hsl, hne⟩
  have HSS : Hid (ss ≠ []) := hss
  have HC : Hid (∀ w1, w.grownBy w1 none → Calls Ybad.prog 21 #[.pointer (some ⟨s0, 0, none⟩)] w1 fun e w2 => (∃ sv2 avs2, e = .returned sv2 ∧ w2.ownsRow w1.heap.size 41 4 sv2 avs2.length (flat avs2) ∧ AvsOk w2 avs2 ss) ∧ w1.grownBy w2 none) := hcall
  have HS : Hid (∀ w', w.grownBy w' sv.ownBlock → (fun w' => w'.cell? ⟨p, 5, none⟩ = some sv ∧ w'.cell? ⟨c0, 0, none⟩ = some (.pointer (some ⟨s0, 0, none⟩))) w') := by
    show ∀ w', w.grownBy w' sv.ownBlock → (fun w' => w'.cell? ⟨p, 5, none⟩ = some sv ∧ w'.cell? ⟨c0, 0, none⟩ = some (.pointer (some ⟨s0, 0, none⟩))) w'
    intro w' hg
    obtain ⟨cc, h1, h2⟩ := hc0
    exact ⟨cellOf (gblock hg MS.out.box (own_ne41 MS.out.row MS.out.box (by decide))), by rw [cellOf (gblock hg h1 (own_ne41 MS.out.row h1 (by decide))), h2]⟩
  have HQ : Hid (∀ (s71 s72 s73 s74 s75 s76 s77 s78 s79 s80 s81 s82 s83 : Value) (w' : World) (news : List Av), AvsOk w' news ss → AppPost w B p fl cmd app hop ete avs news w' → Q .normal { tmps := #[(.pointer (some ⟨c0, 0, none⟩)), t1, t2, t3, t4, t5, t6, (.pointer (some ⟨p, 0, none⟩)), t8, t9, t10, t11, t12, t13, t14, t15, t16, t17, t18, t19, t20, t21, t22, t23, t24, t25, t26, t27, t28, t29, t30, t31, t32, t33, t34, t35, t36, t37, t38, t39, t40, t41, t42, t43, t44, t45, t46, t47, t48, t49, t50, t51, t52, t53, t54, t55, t56, t57, t58, t59, t60, t61, t62, t63, t64, t65, t66, t67, t68, t69, t70, s71, s72, s73, s74, s75, s76, s77, s78, s79, s80, s81, s82, s83, t84], defers := ds } w') := hQ
  clear hms hn hne hss hsl hc0 hcall hQ
  refine wp_region_noPanic ?_
  refine wp_region_last (S := (fun w' => w'.cell? ⟨p, 5, none⟩ = some sv ∧ w'.cell? ⟨c0, 0, none⟩ = some (.pointer (some ⟨s0, 0, none⟩)))) 13 ({ dst := none, op := Op.store 35 (Operand.tmp 83) (Operand.tmp 81), type := 0, pos := "conn.go:243", after := #[{ on := 12, ground := Ground.data }, { on := 10, ground := Ground.data }, { on := 10, ground := Ground.chain }, { on := 0, ground := Ground.phase }, { on := 1, ground := Ground.phase }, { on := 2, ground := Ground.phase }, { on := 3, ground := Ground.phase }, { on := 4, ground := Ground.phase }, { on := 5, ground := Ground.phase }, { on := 6, ground := Ground.phase }, { on := 7, ground := Ground.phase }, { on := 8, ground := Ground.phase }, { on := 9, ground := Ground.phase }, { on := 10, ground := Ground.phase }], guard := none }) (by kernel_rfl) rfl (by kernel_rfl) ?hS (fun hHeld => ?_)
  case hS => exact HS.out _ (gweak (gdrew _ _) _)
  simp only [List.setIfInBounds_toArray, List.set_cons_zero, List.set_cons_succ, idle]
  refine wpAnyH_take (i := 0) (oi := ({ dst := some 71, op := Op.move (Operand.tmp 7), type := 30, pos := "conn.go:243", after := #[], guard := none } : Oper)) (v := ?v0) rfl (by kernel_rfl) (by kernel_rfl) (by kernel_rfl) (fun _ _ _ h => h) (Or.inl ⟨by rfl, ?hy0⟩) (by assumption) ?rest0
  case hy0 => (intro w hSw; (try dsimp only at hSw); go_simp; try (first | with_reducible rfl | decide))
  (try simp only [Act.put, List.setIfInBounds_toArray, List.set_cons_zero, List.set_cons_succ])
  refine wpAnyH_take (i := 1) (oi := ({ dst := some 72, op := Op.move (Operand.tmp 7), type := 30, pos := "conn.go:243", after := #[], guard := none } : Oper)) (v := ?v1) rfl (by kernel_rfl) (by kernel_rfl) (by kernel_rfl) (fun _ _ _ h => h) (Or.inl ⟨by rfl, ?hy1⟩) (by assumption) ?rest1
  case hy1 => (intro w hSw; (try dsimp only at hSw); go_simp; try (first | with_reducible rfl | decide))
  (try simp only [Act.put, List.setIfInBounds_toArray, List.set_cons_zero, List.set_cons_succ])
  refine wpAnyH_take (i := 2) (oi := ({ dst := some 73, op := Op.nilCheck (Operand.tmp 72), type := 0, pos := "conn.go:243", after := #[{ on := 1, ground := Ground.data }], guard := none } : Oper)) (v := ?v2) rfl (by kernel_rfl) (by kernel_rfl) (by kernel_rfl) (fun _ _ _ h => h) (Or.inl ⟨by rfl, ?hy2⟩) (by assumption) ?rest2
  case hy2 => (intro w hSw; (try dsimp only at hSw); go_simp; try (first | with_reducible rfl | decide))
  (try simp only [Act.put, List.setIfInBounds_toArray, List.set_cons_zero, List.set_cons_succ])
  refine wpAnyH_take (i := 3) (oi := ({ dst := some 74, op := Op.fieldAddr 37 (Operand.tmp 73) 5, type := 0, pos := "conn.go:243", after := #[{ on := 2, ground := Ground.data }], guard := none } : Oper)) (v := ?v3) rfl (by kernel_rfl) (by kernel_rfl) (by kernel_rfl) (fun _ _ _ h => h) (Or.inl ⟨by rfl, ?hy3⟩) (by assumption) ?rest3
  case hy3 => (intro w hSw; (try dsimp only at hSw); go_simp; try (first | with_reducible rfl | decide))
  (try simp only [Act.put, List.setIfInBounds_toArray, List.set_cons_zero, List.set_cons_succ])
  refine wpAnyH_take (i := 4) (oi := ({ dst := some 75, op := Op.load 35 (Operand.tmp 74), type := 35, pos := "conn.go:243", after := #[{ on := 3, ground := Ground.data }], guard := none } : Oper)) (v := ?v4) rfl (by kernel_rfl) (by kernel_rfl) (by kernel_rfl) (fun _ _ _ h => h) (Or.inl ⟨by rfl, ?hy4⟩) (by assumption) ?rest4
  case hy4 => (intro w hSw; (try dsimp only at hSw); go_simp; try (first | with_reducible rfl | decide))
  (try simp only [Act.put, List.setIfInBounds_toArray, List.set_cons_zero, List.set_cons_succ])
  refine wpAnyH_take (i := 5) (oi := ({ dst := some 76, op := Op.move (Operand.tmp 0), type := 29, pos := "conn.go:243", after := #[], guard := none } : Oper)) (v := ?v5) rfl (by kernel_rfl) (by kernel_rfl) (by kernel_rfl) (fun _ _ _ h => h) (Or.inl ⟨by rfl, ?hy5⟩) (by assumption) ?rest5
  case hy5 => (intro w hSw; (try dsimp only at hSw); go_simp; try (first | with_reducible rfl | decide))
  (try simp only [Act.put, List.setIfInBounds_toArray, List.set_cons_zero, List.set_cons_succ])
  refine wpAnyH_take (i := 6) (oi := ({ dst := some 77, op := Op.nilCheck (Operand.tmp 76), type := 0, pos := "conn.go:243", after := #[{ on := 5, ground := Ground.data }], guard := none } : Oper)) (v := ?v6) rfl (by kernel_rfl) (by kernel_rfl) (by kernel_rfl) (fun _ _ _ h => h) (Or.inl ⟨by rfl, ?hy6⟩) (by assumption) ?rest6
  case hy6 => (intro w hSw; (try dsimp only at hSw); go_simp; try (first | with_reducible rfl | decide))
  (try simp only [Act.put, List.setIfInBounds_toArray, List.set_cons_zero, List.set_cons_succ])
  refine wpAnyH_take (i := 7) (oi := ({ dst := some 78, op := Op.fieldAddr 117 (Operand.tmp 77) 0, type := 0, pos := "conn.go:243", after := #[{ on := 6, ground := Ground.data }], guard := none } : Oper)) (v := ?v7) rfl (by kernel_rfl) (by kernel_rfl) (by kernel_rfl) (fun _ _ _ h => h) (Or.inl ⟨by rfl, ?hy7⟩) (by assumption) ?rest7
  case hy7 => (intro w hSw; (try dsimp only at hSw); go_simp; try (first | with_reducible rfl | decide))
  (try simp only [Act.put, List.setIfInBounds_toArray, List.set_cons_zero, List.set_cons_succ])
  refine wpAnyH_take (i := 8) (oi := ({ dst := some 79, op := Op.load 56 (Operand.tmp 78), type := 56, pos := "conn.go:243", after := #[{ on := 7, ground := Ground.data }], guard := none } : Oper)) (v := ?v8) rfl (by kernel_rfl) (by kernel_rfl) (by kernel_rfl) (fun _ _ _ h => h) (Or.inl ⟨by rfl, ?hy8⟩) (by assumption) ?rest8
  case hy8 => (intro w hSw; (try dsimp only at hSw); go_simp; try (first | with_reducible rfl | decide))
  (try simp only [Act.put, List.setIfInBounds_toArray, List.set_cons_zero, List.set_cons_succ])
  refine wpAnyH_ready (rs := [9]) (by kernel_rfl) (by simp) ?_
  refine AllReadyH.cons (o := ({ dst := some 80, op := Op.call { callee := Callee.value (Operand.func 21), args := #[Operand.tmp 79], argTypes := #[56] }, type := 35, pos := "conn.go:243", after := #[{ on := 8, ground := Ground.data }], guard := none } : Oper)) rfl (fun K hK => ?_) AllReadyH.nil
  go_simp
  refine (HC.out _ (gdrew _ _)).mono ?_
  rintro e w1 ⟨⟨sv2, avs2, rfl, hown2, hav2⟩, hg1⟩
  have gA : Hid (w.grownBy w1 none) := gtrans (gdrew _ _) hg1
  have A1 : Hid (AvsOk w1 avs2 ss) := hav2
  obtain ⟨g2, c2, hv2, hc2⟩ := own_cells hown2 (by intro h0; have := hav2.len; rw [h0] at this; exact HSS.out (List.eq_nil_of_length_eq_zero this.symm))
  subst hv2
  have HN : Hid (∀ j u, (flat avs2)[j]? = some u → w1.cell? ((⟨g2, 0, none⟩ : Addr).add j) = some u) := hc2
  have HL2 : Hid (0 < avs2.length ∧ avs2.length ≤ 100000) := ⟨hav2.pos HSS.out, by rw [hav2.len]; exact HNN.out.2.1⟩
  clear hc2 hown2 hav2 hg1
  refine hK.out _ _ ?hS9 (fun hHeld2 => ?_)
  case hS9 => exact HS.out _ (gweak gA.out _)
  clear hK K hHeld
  have hHeld := hHeld2
  clear hHeld2
  (try simp only [Act.put, List.setIfInBounds_toArray, List.set_cons_zero, List.set_cons_succ])
  refine wpAnyH_ready (rs := [10]) (by kernel_rfl) (by simp) ?_
  refine AllReadyH.cons (o := ({ dst := some 81, op := Op.call { callee := Callee.builtin Builtin.append, args := #[Operand.tmp 75, Operand.tmp 80], argTypes := #[35, 35] }, type := 35, pos := "conn.go:243", after := #[{ on := 4, ground := Ground.data }, { on := 9, ground := Ground.data }, { on := 9, ground := Ground.chain }], guard := none } : Oper)) rfl (fun K hK => ?_) AllReadyH.nil
  refine step_append_lies _ rfl (.tmp 75) (.tmp 80) 35 rfl B 41 i0 (.agg #[.int .u32 0, .int .u8 0, .int .u32 0, .slice none 0 0]) 4 40 Ybad.underlying35 hi hz0 hz1 hz2 rfl (by decide) sv avs.length (flat avs) (by simp [Act.eval, Act.put]) (MS.out.grow gA.out).row ⟨g2, 0, none⟩ avs2.length c2 (flat avs2) (by simp [Act.eval, Act.put]) (flat_length _) HN.out (flat_one _) HL2.out.1 (by have := HNN.out.1; have := HL2.out.2; unfold maxLen; omega) (by have := HNN.out.1; have := HL2.out.2; omega) (Nat.le_trans MS.out.size gA.out.size) _ rfl ?_
  intro gz capz wz hown4 hg4 _ _
  have HO4 : Hid (wz.ownsRow B 41 4 (.slice (some ⟨gz, 0, none⟩) (avs.length + avs2.length) capz) (avs.length + avs2.length) (flat avs ++ flat avs2)) := hown4
  have HG4 : Hid (w1.grownBy wz sv.ownBlock) := hg4
  have P4 : Hid (wz.heap[p]? = _) := gblock hg4 (MS.out.grow gA.out).box (own_ne41 (MS.out.grow gA.out).row (MS.out.grow gA.out).box (by decide))
  have q4 : wz.cell? ⟨p, 5, none⟩ = some sv := cellOf P4.out
  have z4 : wz.frozen? ⟨p, 5, none⟩ = false := frozenOf P4.out
  clear hown4 hg4
  refine hK.out _ _ ?hS10 (fun hHeld2 => ?_)
  case hS10 => exact HS.out _ (gtrans (gweak gA.out _) HG4.out)
  clear hK K hHeld
  have hHeld := hHeld2
  clear hHeld2
  (try simp only [Act.put, List.setIfInBounds_toArray, List.set_cons_zero, List.set_cons_succ])
  refine wpAnyH_take (i := 11) (oi := ({ dst := some 82, op := Op.nilCheck (Operand.tmp 71), type := 0, pos := "conn.go:243", after := #[{ on := 0, ground := Ground.data }, { on := 0, ground := Ground.phase }, { on := 1, ground := Ground.phase }, { on := 2, ground := Ground.phase }, { on := 3, ground := Ground.phase }, { on := 4, ground := Ground.phase }, { on := 5, ground := Ground.phase }, { on := 6, ground := Ground.phase }, { on := 7, ground := Ground.phase }, { on := 8, ground := Ground.phase }, { on := 9, ground := Ground.phase }, { on := 10, ground := Ground.phase }], guard := none } : Oper)) (v := ?v11) rfl (by kernel_rfl) (by kernel_rfl) (by kernel_rfl) (fun _ _ _ h => h) (Or.inl ⟨by rfl, ?hy11⟩) (by assumption) ?rest11
  case hy11 => (intro w hSw; (try dsimp only at hSw); go_simp; try (first | with_reducible rfl | decide))
  (try simp only [Act.put, List.setIfInBounds_toArray, List.set_cons_zero, List.set_cons_succ])
  refine wpAnyH_take (i := 12) (oi := ({ dst := some 83, op := Op.fieldAddr 37 (Operand.tmp 82) 5, type := 0, pos := "conn.go:243", after := #[{ on := 11, ground := Ground.data }, { on := 0, ground := Ground.phase }, { on := 1, ground := Ground.phase }, { on := 2, ground := Ground.phase }, { on := 3, ground := Ground.phase }, { on := 4, ground := Ground.phase }, { on := 5, ground := Ground.phase }, { on := 6, ground := Ground.phase }, { on := 7, ground := Ground.phase }, { on := 8, ground := Ground.phase }, { on := 9, ground := Ground.phase }, { on := 10, ground := Ground.phase }], guard := none } : Oper)) (v := ?v12) rfl (by kernel_rfl) (by kernel_rfl) (by kernel_rfl) (fun _ _ _ h => h) (Or.inl ⟨by rfl, ?hy12⟩) (by assumption) ?rest12
  case hy12 => (intro w hSw; (try dsimp only at hSw); go_simp; try (first | with_reducible rfl | decide))
  (try simp only [Act.put, List.setIfInBounds_toArray, List.set_cons_zero, List.set_cons_succ])
  refine wpAnyH_take (i := 13) (oi := ({ dst := none, op := Op.move (Operand.const (Value.bool true)), type := 0, pos := "conn.go:243", after := #[{ on := 12, ground := Ground.data }, { on := 10, ground := Ground.data }, { on := 10, ground := Ground.chain }, { on := 0, ground := Ground.phase }, { on := 1, ground := Ground.phase }, { on := 2, ground := Ground.phase }, { on := 3, ground := Ground.phase }, { on := 4, ground := Ground.phase }, { on := 5, ground := Ground.phase }, { on := 6, ground := Ground.phase }, { on := 7, ground := Ground.phase }, { on := 8, ground := Ground.phase }, { on := 9, ground := Ground.phase }, { on := 10, ground := Ground.phase }], guard := none } : Oper)) (v := ?v13) rfl (by kernel_rfl) (by kernel_rfl) (by kernel_rfl) (fun _ _ _ h => h) (Or.inl ⟨by rfl, ?hy13⟩) (by assumption) ?rest13
  case hy13 => (intro w hSw; (try dsimp only at hSw); go_simp; try (first | with_reducible rfl | decide))
  (try simp only [Act.put, List.setIfInBounds_toArray, List.set_cons_zero, List.set_cons_succ])
  refine wpAnyH_done (by kernel_rfl) ?_ _
  simp only [afterLast]
  refine wpOp_step (i := 13) (o := ({ dst := none, op := Op.store 35 (Operand.tmp 83) (Operand.tmp 81), type := 0, pos := "conn.go:243", after := #[{ on := 12, ground := Ground.data }, { on := 10, ground := Ground.data }, { on := 10, ground := Ground.chain }, { on := 0, ground := Ground.phase }, { on := 1, ground := Ground.phase }, { on := 2, ground := Ground.phase }, { on := 3, ground := Ground.phase }, { on := 4, ground := Ground.phase }, { on := 5, ground := Ground.phase }, { on := 6, ground := Ground.phase }, { on := 7, ground := Ground.phase }, { on := 8, ground := Ground.phase }, { on := 9, ground := Ground.phase }, { on := 10, ground := Ground.phase }], guard := none } : Oper)) rfl (fun K hK => ?_)
  go_simp
  exact hK _ _ (NoPanic.normal (HQ.out _ _ _ _ _ _ _ _ _ _ _ _ _ _ avs2 (AvsOk.mono (fun _ _ _ h => h.appended (MS.out.grow gA.out).box (MS.out.grow gA.out).row HG4.out) A1.out) (app_post MS.out gA.out HO4.out HG4.out)))

set_option maxHeartbeats 3200000 in
theorem cea_r7_none {Q : Exit → Act → World → Prop} {ds : List Deferred} {t1 t2 t3 t4 t5 t6 t8 t9 t10 t11 t12 t13 t14 t15 t16 t17 t18 t19 t20 t21 t22 t23 t24 t25 t26 t27 t28 t29 t30 t31 t32 t33 t34 t35 t36 t37 t38 t39 t40 t41 t42 t43 t44 t45 t46 t47 t48 t49 t50 t51 t52 t53 t54 t55 t56 t57 t58 t59 t60 t61 t62 t63 t64 t65 t66 t67 t68 t69 t70 t71 t72 t73 t74 t75 t76 t77 t78 t79 t80 t81 t82 t83 t84 : Value} {w : World} {B p c0 s0 : Nat} {fl cmd app hop ete : Int} {sv : Value} {avs : List Av} {ss : List Sp}
    (hms : MsgSt w B p fl cmd app hop ete sv avs) (hn : avs.length ≤ 100000) (hne : avs ≠ []) (hss : ss = []) (hsl : ss.length ≤ 100000) (hc0 : ∃ cc, w.heap[c0]? = some (.cells cc 117 (0, 0)) ∧ cc[0]? = some (.pointer (some ⟨s0, 0, none⟩)))
    (hcall : ∀ w1, w.grownBy w1 none → Calls Ybad.prog 21 #[.pointer (some ⟨s0, 0, none⟩)] w1 fun e w2 => (∃ sv2 avs2, e = .returned sv2 ∧ w2.ownsRow w1.heap.size 41 4 sv2 avs2.length (flat avs2) ∧ AvsOk w2 avs2 ss) ∧ w1.grownBy w2 none)
    (hQ : ∀ (s71 s72 s73 s74 s75 s76 s77 s78 s79 s80 s81 s82 s83 : Value) (w' : World) (news : List Av), AvsOk w' news ss → AppPost w B p fl cmd app hop ete avs news w' → Q .normal { tmps := #[(.pointer (some ⟨c0, 0, none⟩)), t1, t2, t3, t4, t5, t6, (.pointer (some ⟨p, 0, none⟩)), t8, t9, t10, t11, t12, t13, t14, t15, t16, t17, t18, t19, t20, t21, t22, t23, t24, t25, t26, t27, t28, t29, t30, t31, t32, t33, t34, t35, t36, t37, t38, t39, t40, t41, t42, t43, t44, t45, t46, t47, t48, t49, t50, t51, t52, t53, t54, t55, t56, t57, t58, t59, t60, t61, t62, t63, t64, t65, t66, t67, t68, t69, t70, s71, s72, s73, s74, s75, s76, s77, s78, s79, s80, s81, s82, s83, t84], defers := ds } w') :
    (Code.region 7 #[{ dst := some 71, op := Op.move (Operand.tmp 7), type := 30, pos := "conn.go:243", after := #[], guard := none }, { dst := some 72, op := Op.move (Operand.tmp 7), type := 30, pos := "conn.go:243", after := #[], guard := none }, { dst := some 73, op := Op.nilCheck (Operand.tmp 72), type := 0, pos := "conn.go:243", after := #[{ on := 1, ground := Ground.data }], guard := none }, { dst := some 74, op := Op.fieldAddr 37 (Operand.tmp 73) 5, type := 0, pos := "conn.go:243", after := #[{ on := 2, ground := Ground.data }], guard := none }, { dst := some 75, op := Op.load 35 (Operand.tmp 74), type := 35, pos := "conn.go:243", after := #[{ on := 3, ground := Ground.data }], guard := none }, { dst := some 76, op := Op.move (Operand.tmp 0), type := 29, pos := "conn.go:243", after := #[], guard := none }, { dst := some 77, op := Op.nilCheck (Operand.tmp 76), type := 0, pos := "conn.go:243", after := #[{ on := 5, ground := Ground.data }], guard := none }, { dst := some 78, op := Op.fieldAddr 117 (Operand.tmp 77) 0, type := 0, pos := "conn.go:243", after := #[{ on := 6, ground := Ground.data }], guard := none }, { dst := some 79, op := Op.load 56 (Operand.tmp 78), type := 56, pos := "conn.go:243", after := #[{ on := 7, ground := Ground.data }], guard := none }, { dst := some 80, op := Op.call { callee := Callee.value (Operand.func 21), args := #[Operand.tmp 79], argTypes := #[56] }, type := 35, pos := "conn.go:243", after := #[{ on := 8, ground := Ground.data }], guard := none }, { dst := some 81, op := Op.call { callee := Callee.builtin Builtin.append, args := #[Operand.tmp 75, Operand.tmp 80], argTypes := #[35, 35] }, type := 35, pos := "conn.go:243", after := #[{ on := 4, ground := Ground.data }, { on := 9, ground := Ground.data }, { on := 9, ground := Ground.chain }], guard := none }, { dst := some 82, op := Op.nilCheck (Operand.tmp 71), type := 0, pos := "conn.go:243", after := #[{ on := 0, ground := Ground.data }, { on := 0, ground := Ground.phase }, { on := 1, ground := Ground.phase }, { on := 2, ground := Ground.phase }, { on := 3, ground := Ground.phase }, { on := 4, ground := Ground.phase }, { on := 5, ground := Ground.phase }, { on := 6, ground := Ground.phase }, { on := 7, ground := Ground.phase }, { on := 8, ground := Ground.phase }, { on := 9, ground := Ground.phase }, { on := 10, ground := Ground.phase }], guard := none }, { dst := some 83, op := Op.fieldAddr 37 (Operand.tmp 82) 5, type := 0, pos := "conn.go:243", after := #[{ on := 11, ground := Ground.data }, { on := 0, ground := Ground.phase }, { on := 1, ground := Ground.phase }, { on := 2, ground := Ground.phase }, { on := 3, ground := Ground.phase }, { on := 4, ground := Ground.phase }, { on := 5, ground := Ground.phase }, { on := 6, ground := Ground.phase }, { on := 7, ground := Ground.phase }, { on := 8, ground := Ground.phase }, { on := 9, ground := Ground.phase }, { on := 10, ground := Ground.phase }], guard := none }, { dst := none, op := Op.store 35 (Operand.tmp 83) (Operand.tmp 81), type := 0, pos := "conn.go:243", after := #[{ on := 12, ground := Ground.data }, { on := 10, ground := Ground.data }, { on := 10, ground := Ground.chain }, { on := 0, ground := Ground.phase }, { on := 1, ground := Ground.phase }, { on := 2, ground := Ground.phase }, { on := 3, ground := Ground.phase }, { on := 4, ground := Ground.phase }, { on := 5, ground := Ground.phase }, { on := 6, ground := Ground.phase }, { on := 7, ground := Ground.phase }, { on := 8, ground := Ground.phase }, { on := 9, ground := Ground.phase }, { on := 10, ground := Ground.phase }], guard := none }] true).wp Ybad.prog Q { tmps := #[(.pointer (some ⟨c0, 0, none⟩)), t1, t2, t3, t4, t5, t6, (.pointer (some ⟨p, 0, none⟩)), t8, t9, t10, t11, t12, t13, t14, t15, t16, t17, t18, t19, t20, t21, t22, t23, t24, t25, t26, t27, t28, t29, t30, t31, t32, t33, t34, t35, t36, t37, t38, t39, t40, t41, t42, t43, t44, t45, t46, t47, t48, t49, t50, t51, t52, t53, t54, t55, t56, t57, t58, t59, t60, t61, t62, t63, t64, t65, t66, t67, t68, t69, t70, t71, t72, t73, t74, t75, t76, t77, t78, t79, t80, t81, t82, t83, t84], defers := ds } w := by
  obtain ⟨i0, hi, hz0, hz1, hz2⟩ := info_parts info41
  have MS : Hid (MsgSt w B p fl cmd app hop ete sv avs) := hms
  have HNN : Hid (avs.length ≤ 100000 ∧ ss.length ≤ 100000 ∧ avs ≠ []) := ⟨hn, hsl, hne⟩
  have HSS : Hid (ss = []) := hss
  have HC : Hid (∀ w1, w.grownBy w1 none → Calls Ybad.prog 21 #[.pointer (some ⟨s0, 0, none⟩)] w1 fun e w2 => (∃ sv2 avs2, e = .returned sv2 ∧ w2.ownsRow w1.heap.size 41 4 sv2 avs2.length (flat avs2) ∧ AvsOk w2 avs2 ss) ∧ w1.grownBy w2 none) := hcall
  have HS : Hid (∀ w', w.grownBy w' sv.ownBlock → (fun w' => w'.cell? ⟨p, 5, none⟩ = some sv ∧ w'.cell? ⟨c0, 0, none⟩ = some (.pointer (some ⟨s0, 0, none⟩))) w') := by
    show ∀ w', w.grownBy w' sv.ownBlock → (fun w' => w'.cell? ⟨p, 5, none⟩ = some sv ∧ w'.cell? ⟨c0, 0, none⟩ = some (.pointer (some ⟨s0, 0, none⟩))) w'
    intro w' hg
    obtain ⟨cc, h1, h2⟩ := hc0
    exact ⟨cellOf (gblock hg MS.out.box (own_ne41 MS.out.row MS.out.box (by decide))), by rw [cellOf (gblock hg h1 (own_ne41 MS.out.row h1 (by decide))), h2]⟩
  have HQ : Hid (∀ (s71 s72 s73 s74 s75 s76 s77 s78 s79 s80 s81 s82 s83 : Value) (w' : World) (news : List Av), AvsOk w' news ss → AppPost w B p fl cmd app hop ete avs news w' → Q .normal { tmps := #[(.pointer (some ⟨c0, 0, none⟩)), t1, t2, t3, t4, t5, t6, (.pointer (some ⟨p, 0, none⟩)), t8, t9, t10, t11, t12, t13, t14, t15, t16, t17, t18, t19, t20, t21, t22, t23, t24, t25, t26, t27, t28, t29, t30, t31, t32, t33, t34, t35, t36, t37, t38, t39, t40, t41, t42, t43, t44, t45, t46, t47, t48, t49, t50, t51, t52, t53, t54, t55, t56, t57, t58, t59, t60, t61, t62, t63, t64, t65, t66, t67, t68, t69, t70, s71, s72, s73, s74, s75, s76, s77, s78, s79, s80, s81, s82, s83, t84], defers := ds } w') := hQ
  clear hms hn hne hss hsl hc0 hcall hQ
  refine wp_region_noPanic ?_
  refine wp_region_last (S := (fun w' => w'.cell? ⟨p, 5, none⟩ = some sv ∧ w'.cell? ⟨c0, 0, none⟩ = some (.pointer (some ⟨s0, 0, none⟩)))) 13 ({ dst := none, op := Op.store 35 (Operand.tmp 83) (Operand.tmp 81), type := 0, pos := "conn.go:243", after := #[{ on := 12, ground := Ground.data }, { on := 10, ground := Ground.data }, { on := 10, ground := Ground.chain }, { on := 0, ground := Ground.phase }, { on := 1, ground := Ground.phase }, { on := 2, ground := Ground.phase }, { on := 3, ground := Ground.phase }, { on := 4, ground := Ground.phase }, { on := 5, ground := Ground.phase }, { on := 6, ground := Ground.phase }, { on := 7, ground := Ground.phase }, { on := 8, ground := Ground.phase }, { on := 9, ground := Ground.phase }, { on := 10, ground := Ground.phase }], guard := none }) (by kernel_rfl) rfl (by kernel_rfl) ?hS (fun hHeld => ?_)
  case hS => exact HS.out _ (gweak (gdrew _ _) _)
  simp only [List.setIfInBounds_toArray, List.set_cons_zero, List.set_cons_succ, idle]
  refine wpAnyH_take (i := 0) (oi := ({ dst := some 71, op := Op.move (Operand.tmp 7), type := 30, pos := "conn.go:243", after := #[], guard := none } : Oper)) (v := ?v0) rfl (by kernel_rfl) (by kernel_rfl) (by kernel_rfl) (fun _ _ _ h => h) (Or.inl ⟨by rfl, ?hy0⟩) (by assumption) ?rest0
  case hy0 => (intro w hSw; (try dsimp only at hSw); go_simp; try (first | with_reducible rfl | decide))
  (try simp only [Act.put, List.setIfInBounds_toArray, List.set_cons_zero, List.set_cons_succ])
  refine wpAnyH_take (i := 1) (oi := ({ dst := some 72, op := Op.move (Operand.tmp 7), type := 30, pos := "conn.go:243", after := #[], guard := none } : Oper)) (v := ?v1) rfl (by kernel_rfl) (by kernel_rfl) (by kernel_rfl) (fun _ _ _ h => h) (Or.inl ⟨by rfl, ?hy1⟩) (by assumption) ?rest1
  case hy1 => (intro w hSw; (try dsimp only at hSw); go_simp; try (first | with_reducible rfl | decide))
  (try simp only [Act.put, List.setIfInBounds_toArray, List.set_cons_zero, List.set_cons_succ])
  refine wpAnyH_take (i := 2) (oi := ({ dst := some 73, op := Op.nilCheck (Operand.tmp 72), type := 0, pos := "conn.go:243", after := #[{ on := 1, ground := Ground.data }], guard := none } : Oper)) (v := ?v2) rfl (by kernel_rfl) (by kernel_rfl) (by kernel_rfl) (fun _ _ _ h => h) (Or.inl ⟨by rfl, ?hy2⟩) (by assumption) ?rest2
  case hy2 => (intro w hSw; (try dsimp only at hSw); go_simp; try (first | with_reducible rfl | decide))
  (try simp only [Act.put, List.setIfInBounds_toArray, List.set_cons_zero, List.set_cons_succ])
  refine wpAnyH_take (i := 3) (oi := ({ dst := some 74, op := Op.fieldAddr 37 (Operand.tmp 73) 5, type := 0, pos := "conn.go:243", after := #[{ on := 2, ground := Ground.data }], guard := none } : Oper)) (v := ?v3) rfl (by kernel_rfl) (by kernel_rfl) (by kernel_rfl) (fun _ _ _ h => h) (Or.inl ⟨by rfl, ?hy3⟩) (by assumption) ?rest3
  case hy3 => (intro w hSw; (try dsimp only at hSw); go_simp; try (first | with_reducible rfl | decide))
  (try simp only [Act.put, List.setIfInBounds_toArray, List.set_cons_zero, List.set_cons_succ])
  refine wpAnyH_take (i := 4) (oi := ({ dst := some 75, op := Op.load 35 (Operand.tmp 74), type := 35, pos := "conn.go:243", after := #[{ on := 3, ground := Ground.data }], guard := none } : Oper)) (v := ?v4) rfl (by kernel_rfl) (by kernel_rfl) (by kernel_rfl) (fun _ _ _ h => h) (Or.inl ⟨by rfl, ?hy4⟩) (by assumption) ?rest4
  case hy4 => (intro w hSw; (try dsimp only at hSw); go_simp; try (first | with_reducible rfl | decide))
  (try simp only [Act.put, List.setIfInBounds_toArray, List.set_cons_zero, List.set_cons_succ])
  refine wpAnyH_take (i := 5) (oi := ({ dst := some 76, op := Op.move (Operand.tmp 0), type := 29, pos := "conn.go:243", after := #[], guard := none } : Oper)) (v := ?v5) rfl (by kernel_rfl) (by kernel_rfl) (by kernel_rfl) (fun _ _ _ h => h) (Or.inl ⟨by rfl, ?hy5⟩) (by assumption) ?rest5
  case hy5 => (intro w hSw; (try dsimp only at hSw); go_simp; try (first | with_reducible rfl | decide))
  (try simp only [Act.put, List.setIfInBounds_toArray, List.set_cons_zero, List.set_cons_succ])
  refine wpAnyH_take (i := 6) (oi := ({ dst := some 77, op := Op.nilCheck (Operand.tmp 76), type := 0, pos := "conn.go:243", after := #[{ on := 5, ground := Ground.data }], guard := none } : Oper)) (v := ?v6) rfl (by kernel_rfl) (by kernel_rfl) (by kernel_rfl) (fun _ _ _ h => h) (Or.inl ⟨by rfl, ?hy6⟩) (by assumption) ?rest6
  case hy6 => (intro w hSw; (try dsimp only at hSw); go_simp; try (first | with_reducible rfl | decide))
  (try simp only [Act.put, List.setIfInBounds_toArray, List.set_cons_zero, List.set_cons_succ])
  refine wpAnyH_take (i := 7) (oi := ({ dst := some 78, op := Op.fieldAddr 117 (Operand.tmp 77) 0, type := 0, pos := "conn.go:243", after := #[{ on := 6, ground := Ground.data }], guard := none } : Oper)) (v := ?v7) rfl (by kernel_rfl) (by kernel_rfl) (by kernel_rfl) (fun _ _ _ h => h) (Or.inl ⟨by rfl, ?hy7⟩) (by assumption) ?rest7
  case hy7 => (intro w hSw; (try dsimp only at hSw); go_simp; try (first | with_reducible rfl | decide))
  (try simp only [Act.put, List.setIfInBounds_toArray, List.set_cons_zero, List.set_cons_succ])
  refine wpAnyH_take (i := 8) (oi := ({ dst := some 79, op := Op.load 56 (Operand.tmp 78), type := 56, pos := "conn.go:243", after := #[{ on := 7, ground := Ground.data }], guard := none } : Oper)) (v := ?v8) rfl (by kernel_rfl) (by kernel_rfl) (by kernel_rfl) (fun _ _ _ h => h) (Or.inl ⟨by rfl, ?hy8⟩) (by assumption) ?rest8
  case hy8 => (intro w hSw; (try dsimp only at hSw); go_simp; try (first | with_reducible rfl | decide))
  (try simp only [Act.put, List.setIfInBounds_toArray, List.set_cons_zero, List.set_cons_succ])
  refine wpAnyH_ready (rs := [9]) (by kernel_rfl) (by simp) ?_
  refine AllReadyH.cons (o := ({ dst := some 80, op := Op.call { callee := Callee.value (Operand.func 21), args := #[Operand.tmp 79], argTypes := #[56] }, type := 35, pos := "conn.go:243", after := #[{ on := 8, ground := Ground.data }], guard := none } : Oper)) rfl (fun K hK => ?_) AllReadyH.nil
  go_simp
  refine (HC.out _ (gdrew _ _)).mono ?_
  rintro e w1 ⟨⟨sv2, avs2, rfl, hown2, hav2⟩, hg1⟩
  have gA : Hid (w.grownBy w1 none) := gtrans (gdrew _ _) hg1
  have A1 : Hid (AvsOk w1 avs2 ss) := hav2
  have hl0 : avs2 = [] := by have := hav2.len; rw [HSS.out] at this; exact List.eq_nil_of_length_eq_zero this
  obtain ⟨xo, xl, xc, hx⟩ := own_form hown2
  have hxl : xl = 0 := by
    subst hl0
    rcases hown2.2 with ⟨h, _⟩ | ⟨g', c', cur, h, _⟩
    · rw [hx] at h; cases h; rfl
    · rw [hx] at h; cases h; rfl
  subst hxl
  subst hx
  have HL0 : Hid (avs2 = []) := hl0
  clear hl0 hown2 hav2 hg1
  refine hK.out _ _ ?hS9 (fun hHeld2 => ?_)
  case hS9 => exact HS.out _ (gweak gA.out _)
  clear hK K hHeld
  have hHeld := hHeld2
  clear hHeld2
  (try simp only [Act.put, List.setIfInBounds_toArray, List.set_cons_zero, List.set_cons_succ])
  refine wpAnyH_ready (rs := [10]) (by kernel_rfl) (by simp) ?_
  refine AllReadyH.cons (o := ({ dst := some 81, op := Op.call { callee := Callee.builtin Builtin.append, args := #[Operand.tmp 75, Operand.tmp 80], argTypes := #[35, 35] }, type := 35, pos := "conn.go:243", after := #[{ on := 4, ground := Ground.data }, { on := 9, ground := Ground.data }, { on := 9, ground := Ground.chain }], guard := none } : Oper)) rfl (fun K hK => ?_) AllReadyH.nil
  obtain ⟨gs, cs, hsv, _⟩ := own_cells MS.out.row (by intro h0; exact HNN.out.2.2 (List.eq_nil_of_length_eq_zero h0))
  refine step_append_empty rfl (.tmp 75) (.tmp 80) rfl gs avs.length cs xo xc (by simp [Act.eval, Act.put, hsv]) (by simp [Act.eval, Act.put]) (own_cap (by have := MS.out.row; rw [hsv] at this; exact this)) ?_
  have HSV : Hid (sv = .slice (some ⟨gs, 0, none⟩) avs.length cs) := hsv
  have P4 : Hid (w1.heap[p]? = _) := (MS.out.grow gA.out).box
  have q4 : w1.cell? ⟨p, 5, none⟩ = some sv := cellOf P4.out
  have z4 : w1.frozen? ⟨p, 5, none⟩ = false := frozenOf P4.out
  clear hsv
  refine hK.out _ _ ?hS10 (fun hHeld2 => ?_)
  case hS10 => exact HS.out _ (gweak gA.out _)
  clear hK K hHeld
  have hHeld := hHeld2
  clear hHeld2
  (try simp only [Act.put, List.setIfInBounds_toArray, List.set_cons_zero, List.set_cons_succ])
  refine wpAnyH_take (i := 11) (oi := ({ dst := some 82, op := Op.nilCheck (Operand.tmp 71), type := 0, pos := "conn.go:243", after := #[{ on := 0, ground := Ground.data }, { on := 0, ground := Ground.phase }, { on := 1, ground := Ground.phase }, { on := 2, ground := Ground.phase }, { on := 3, ground := Ground.phase }, { on := 4, ground := Ground.phase }, { on := 5, ground := Ground.phase }, { on := 6, ground := Ground.phase }, { on := 7, ground := Ground.phase }, { on := 8, ground := Ground.phase }, { on := 9, ground := Ground.phase }, { on := 10, ground := Ground.phase }], guard := none } : Oper)) (v := ?v11) rfl (by kernel_rfl) (by kernel_rfl) (by kernel_rfl) (fun _ _ _ h => h) (Or.inl ⟨by rfl, ?hy11⟩) (by assumption) ?rest11
  case hy11 => (intro w hSw; (try dsimp only at hSw); go_simp; try (first | with_reducible rfl | decide))
  (try simp only [Act.put, List.setIfInBounds_toArray, List.set_cons_zero, List.set_cons_succ])
  refine wpAnyH_take (i := 12) (oi := ({ dst := some 83, op := Op.fieldAddr 37 (Operand.tmp 82) 5, type := 0, pos := "conn.go:243", after := #[{ on := 11, ground := Ground.data }, { on := 0, ground := Ground.phase }, { on := 1, ground := Ground.phase }, { on := 2, ground := Ground.phase }, { on := 3, ground := Ground.phase }, { on := 4, ground := Ground.phase }, { on := 5, ground := Ground.phase }, { on := 6, ground := Ground.phase }, { on := 7, ground := Ground.phase }, { on := 8, ground := Ground.phase }, { on := 9, ground := Ground.phase }, { on := 10, ground := Ground.phase }], guard := none } : Oper)) (v := ?v12) rfl (by kernel_rfl) (by kernel_rfl) (by kernel_rfl) (fun _ _ _ h => h) (Or.inl ⟨by rfl, ?hy12⟩) (by assumption) ?rest12
  case hy12 => (intro w hSw; (try dsimp only at hSw); go_simp; try (first | with_reducible rfl | decide))
  (try simp only [Act.put, List.setIfInBounds_toArray, List.set_cons_zero, List.set_cons_succ])
  refine wpAnyH_take (i := 13) (oi := ({ dst := none, op := Op.move (Operand.const (Value.bool true)), type := 0, pos := "conn.go:243", after := #[{ on := 12, ground := Ground.data }, { on := 10, ground := Ground.data }, { on := 10, ground := Ground.chain }, { on := 0, ground := Ground.phase }, { on := 1, ground := Ground.phase }, { on := 2, ground := Ground.phase }, { on := 3, ground := Ground.phase }, { on := 4, ground := Ground.phase }, { on := 5, ground := Ground.phase }, { on := 6, ground := Ground.phase }, { on := 7, ground := Ground.phase }, { on := 8, ground := Ground.phase }, { on := 9, ground := Ground.phase }, { on := 10, ground := Ground.phase }], guard := none } : Oper)) (v := ?v13) rfl (by kernel_rfl) (by kernel_rfl) (by kernel_rfl) (fun _ _ _ h => h) (Or.inl ⟨by rfl, ?hy13⟩) (by assumption) ?rest13
  case hy13 => (intro w hSw; (try dsimp only at hSw); go_simp; try (first | with_reducible rfl | decide))
  (try simp only [Act.put, List.setIfInBounds_toArray, List.set_cons_zero, List.set_cons_succ])
  refine wpAnyH_done (by kernel_rfl) ?_ _
  simp only [afterLast]
  refine wpOp_step (i := 13) (o := ({ dst := none, op := Op.store 35 (Operand.tmp 83) (Operand.tmp 81), type := 0, pos := "conn.go:243", after := #[{ on := 12, ground := Ground.data }, { on := 10, ground := Ground.data }, { on := 10, ground := Ground.chain }, { on := 0, ground := Ground.phase }, { on := 1, ground := Ground.phase }, { on := 2, ground := Ground.phase }, { on := 3, ground := Ground.phase }, { on := 4, ground := Ground.phase }, { on := 5, ground := Ground.phase }, { on := 6, ground := Ground.phase }, { on := 7, ground := Ground.phase }, { on := 8, ground := Ground.phase }, { on := 9, ground := Ground.phase }, { on := 10, ground := Ground.phase }], guard := none } : Oper)) rfl (fun K hK => ?_)
  go_simp
  refine hK _ _ (NoPanic.normal (HQ.out _ _ _ _ _ _ _ _ _ _ _ _ _ _ [] (by rw [HSS.out]; trivial) ?_))
  exact app_post (news := []) MS.out gA.out (by have := (MS.out.grow gA.out).row; rw [HSV.out] at this; simpa [flat] using this) (World.grownBy.refl _ _)
end Go.Proofs.YbulkaptmDoor
