/-
  A region that draws its order and whose LAST operation waits for all others ('m.f = append(m.f, ..)': the store): the others may be walked as if the last did nothing, and the last comes behind them. So a condition on the world may hold the cell that the last operation writes.
-/
import Derived.Deep.RegionHeld3
import Derived.StillTail
namespace Go.Proofs.YbulkaptmDoor
open Go

/-- What must hold behind the others: the last operation from here leads to Q. -/
def afterLast (P : Program) (ops : Array Oper) (Q : Exit → Act → World → Prop) (n : Nat) : Exit → Act → World → Prop
  | .normal, a, w => wpOp P ops Q n (fun a' w' => Q .normal a' w') a w
  | e, a, w => Q e a w

/-- The operation that does nothing, with the last one's edges. -/
def idle (o : Oper) : Oper := { o with op := Op.move (.const (.bool true)), dst := none, guard := none }

theorem upon_after {P : Program} {ops : Array Oper} {Q : Exit → Act → World → Prop} {n : Nat} {o : Oper} {a : Act} {K : Act → World → Prop} {r : Result Next}
    (h : o.upon P a K (afterLast P ops Q n) r) : o.upon P a K Q r := by
  cases r with
  | ok x w' =>
    cases x <;> simp only [Oper.upon] at h ⊢ <;> first | exact h | exact Calls.mono h (fun e w'' he => by cases e <;> exact he)
  | halt x w' => cases x <;> simp only [Oper.upon] at h ⊢ <;> exact h

theorem wpOp_after {P : Program} {ops ops' : Array Oper} {Q : Exit → Act → World → Prop} {n i : Nat} {a : Act} {w : World} {K K' : Act → World → Prop} (hi : ops'[i]? = ops[i]?) (hg : ∀ o, ops[i]? = some o → o.guard = none)
    (hK : ∀ a w, K' a w → K a w) (h : wpOp P ops' (afterLast P ops Q n) i K' a w) : wpOp P ops Q i K a w := by
  unfold wpOp at *
  rw [hi] at h
  cases ho : ops[i]? with
  | none => simp only [ho] at h ⊢; exact hK _ _ h
  | some o =>
    simp only [ho] at h ⊢
    have hw : ∀ y, Region.wanted o y = true := fun y => by simp [Region.wanted, hg o ho]
    rw [if_pos (hw _)] at h ⊢
    rcases h with h | ⟨h1, h2⟩
    · exact .inl (Oper.wp_mono hK (upon_after h))
    · refine .inr ⟨h1, ?_⟩
      obtain ⟨a', w', hq⟩ := h2
      exact ⟨a', w', hq⟩

theorem ready_same {md : Region.Mode} {ops ops' : Array Oper} (hs : ops'.size = ops.size) (he : ∀ i : Nat, (ops'[i]?).map (·.after) = (ops[i]?).map (·.after)) (listed : Array Bool) : Region.ready md ops' listed = Region.ready md ops listed := by
  unfold Region.ready
  rw [hs]
  congr 1
  funext i
  have e : ((ops'[i]?).map (·.after.all fun e => !Region.binds md e || listed.getD e.on false)) = ((ops[i]?).map (·.after.all fun e => !Region.binds md e || listed.getD e.on false)) := by
    have := congrArg (Option.map (fun A : Array Edge => A.all fun e => !Region.binds md e || listed.getD e.on false)) (he i)
    rw [Option.map_map, Option.map_map] at this
    exact this
  rw [e]

theorem getD_lt {listed : Array Bool} {k : Nat} (h : k < listed.size) (b : Bool) : listed.getD k b = listed[k] := by simp [h]

/-- As long as one operation has not come up, one may come up. -/
theorem ready_ne {md : Region.Mode} {ops : Array Oper} {listed : Array Bool} (hs : listed.size = ops.size) (hback : ∀ (i : Nat) (oi : Oper), ops[i]? = some oi → ∀ e ∈ oi.after, Region.binds md e = true → e.on < i) :
    ∀ k, k < ops.size → listed.getD k true = false → Region.ready md ops listed ≠ [] := by
  intro k
  induction k using Nat.strongRecOn with
  | _ k ih =>
    intro hk hl
    by_cases hall : ∀ e ∈ (ops[k]'hk).after, Region.binds md e = true → listed.getD e.on false = true
    · intro hr
      have : k ∈ Region.ready md ops listed := by
        rw [mem_ready]
        exact ⟨hl, _, Array.getElem?_eq_getElem hk, hall⟩
      rw [hr] at this
      cases this
    · simp only [Classical.not_forall] at hall
      obtain ⟨e, he, hb, hn⟩ := hall
      have hlt := hback k _ (Array.getElem?_eq_getElem hk) e he hb
      refine ih e.on hlt (by omega) ?_
      rw [getD_lt (by omega)] at hn ⊢
      simpa using hn

theorem idle_wp {P : Program} {o : Oper} {a : Act} {w : World} {K : Act → World → Prop} {Q : Exit → Act → World → Prop} (h : (idle o).wp P a w K Q ∨ ((idle o).asks P a w ∧ LetsOut Q)) : K a w := by
  rcases h with h | ⟨h, _⟩
  · simpa [Oper.wp, idle, execOp, Oper.upon, Act.put, Act.eval] using h
  · exfalso
    have := h.1
    simp [idle, execOp] at this
    exact absurd (show noRoomEvent ∈ (#[] : Array Event) from this) (by simp)

theorem closed_set {md : Region.Mode} {ops : Array Oper} {listed : Array Bool} {i : Nat} (hcl : ∀ (k : Nat) (oi : Oper), listed.getD k false = true → ops[k]? = some oi → ∀ e ∈ oi.after, Region.binds md e = true → listed.getD e.on false = true) (hi : i ∈ Region.ready md ops listed) :
    ∀ (k : Nat) (oi : Oper), (listed.setIfInBounds i true).getD k false = true → ops[k]? = some oi → ∀ e ∈ oi.after, Region.binds md e = true → (listed.setIfInBounds i true).getD e.on false = true := by
  intro k oi hk hoi e he hb
  refine getD_set_true ?_
  by_cases hki : k = i
  · subst hki
    rw [mem_ready] at hi
    obtain ⟨_, o', ho', h⟩ := hi
    rw [hoi] at ho'
    cases ho'
    exact h e he hb
  · rw [getD_set_ne false (Ne.symm hki)] at hk
    exact hcl k oi hk hoi e he hb

theorem wpAny_last {P : Program} {md : Region.Mode} {ops : Array Oper} {Q : Exit → Act → World → Prop} {n : Nat} {o : Oper} (ho : ops[n]? = some o) (hgd : ∀ (i : Nat) (oi : Oper), ops[i]? = some oi → oi.guard = none)
    (hwait : ∀ j, j < ops.size → j ≠ n → (∃ e ∈ o.after, Region.binds md e = true ∧ e.on = j) ∨ (∃ e ∈ o.after, Region.binds md e = true ∧ ∃ o2, ops[e.on]? = some o2 ∧ ∃ e2 ∈ o2.after, Region.binds md e2 = true ∧ e2.on = j)) (hback : ∀ (i : Nat) (oi : Oper), ops[i]? = some oi → ∀ e ∈ oi.after, Region.binds md e = true → e.on < i) :
    ∀ (fuel : Nat) (listed : Array Bool) (a : Act) (w : World), listed.size = ops.size → listed.getD n true = false → (∀ (i : Nat) (oi : Oper), listed.getD i false = true → ops[i]? = some oi → ∀ e ∈ oi.after, Region.binds md e = true → listed.getD e.on false = true) → wpAny P md (ops.setIfInBounds n (idle o)) (afterLast P ops Q n) fuel listed a w → wpAny P md ops Q fuel listed a w := by
  have hn : n < ops.size := (Array.getElem?_eq_some_iff.1 ho).1
  have hon : ops[n] = o := (Array.getElem?_eq_some_iff.1 ho).2
  have hR : ∀ listed, Region.ready md (ops.setIfInBounds n (idle o)) listed = Region.ready md ops listed := by
    intro listed
    refine ready_same (by simp) (fun i => ?_) listed
    by_cases hi : n = i
    · subst hi
      simp [hn, idle, hon]
    · rw [Array.getElem?_setIfInBounds_ne hi]
  intro fuel
  induction fuel with
  | zero =>
    intro listed a w hs hl hcl h
    exact absurd ((hR listed).symm.trans h.1) (ready_ne hs hback n hn hl)
  | succ fuel ih =>
    intro listed a w hs hl hcl h
    refine ⟨fun hr => absurd hr (ready_ne hs hback n hn hl), fun i hi => ?_⟩
    have h2 := h.2 i (by rw [hR]; exact hi)
    by_cases hin : i = n
    · subst hin
      have hall : Region.ready md ops (listed.setIfInBounds i true) = [] := by
        rw [List.eq_nil_iff_forall_not_mem]
        intro j hj
        rw [mem_ready] at hj hi
        obtain ⟨hj0, oj, hoj, _⟩ := hj
        obtain ⟨_, o', ho', hi'⟩ := hi
        rw [ho] at ho'
        cases ho'
        have hjs : j < ops.size := (Array.getElem?_eq_some_iff.1 hoj).1
        by_cases hji : j = i
        · subst hji
          simp [hs, hjs] at hj0
        · have : listed.getD j false = true := by
            rcases hwait j hjs hji with ⟨e, he, hb, hon⟩ | ⟨e, he, hb, o2, ho2, e2, he2, hb2, hon⟩
            · rw [← hon]; exact hi' e he hb
            · rw [← hon]; exact hcl e.on o2 (hi' e he hb) ho2 e2 he2 hb2
          rw [getD_set_ne true (Ne.symm hji), getD_lt (by omega)] at hj0
          rw [getD_lt (by omega)] at this
          rw [hj0] at this
          cases this
      unfold wpOp at h2
      rw [Array.getElem?_setIfInBounds_self_of_lt hn] at h2
      simp only at h2
      rw [if_pos (by simp [Region.wanted, idle])] at h2
      have h3 := idle_wp h2
      have h4 : afterLast P ops Q i .normal a w := by
        cases fuel with
        | zero => exact h3.2
        | succ f => exact h3.1 (by rw [hR]; exact hall)
      exact wpOp_mono (fun a w hq => wpAny_done hall hq _) h4
    · exact wpOp_after (Array.getElem?_setIfInBounds_ne (Ne.symm hin)) (hgd i) (fun a w hk => ih _ a w (by simpa using hs) (by rw [getD_set_ne true hin]; exact hl) (closed_set hcl hi) hk) h2

/-- The three conditions on the region, as one test. -/
def lastB (md : Region.Mode) (ops : Array Oper) (n : Nat) : Bool :=
  (List.range ops.size).all (fun i => match ops[i]? with | none => true | some oi => oi.guard.isNone && oi.after.all fun e => !Region.binds md e || decide (e.on < i)) &&
  (List.range ops.size).all (fun j => decide (j = n) || (match ops[n]? with | none => false | some o => o.after.any fun e => Region.binds md e && (decide (e.on = j) || (match ops[e.on]? with | none => false | some o2 => o2.after.any fun e2 => Region.binds md e2 && decide (e2.on = j)))))

theorem lastB_spec {md : Region.Mode} {ops : Array Oper} {n : Nat} {o : Oper} (ho : ops[n]? = some o) (h : lastB md ops n = true) :
    (∀ (i : Nat) (oi : Oper), ops[i]? = some oi → oi.guard = none) ∧ (∀ j, j < ops.size → j ≠ n → (∃ e ∈ o.after, Region.binds md e = true ∧ e.on = j) ∨ (∃ e ∈ o.after, Region.binds md e = true ∧ ∃ o2, ops[e.on]? = some o2 ∧ ∃ e2 ∈ o2.after, Region.binds md e2 = true ∧ e2.on = j)) ∧ (∀ (i : Nat) (oi : Oper), ops[i]? = some oi → ∀ e ∈ oi.after, Region.binds md e = true → e.on < i) := by
  unfold lastB at h
  rw [Bool.and_eq_true, List.all_eq_true, List.all_eq_true] at h
  obtain ⟨h1, h2⟩ := h
  refine ⟨fun i oi hi => ?_, fun j hj hne => ?_, fun i oi hi e he hb => ?_⟩
  · have := h1 i (List.mem_range.2 (Array.getElem?_eq_some_iff.1 hi).1)
    simp only [hi, Bool.and_eq_true] at this
    simpa using this.1
  · have := h2 j (List.mem_range.2 hj)
    simp only [ho, Bool.or_eq_true, decide_eq_true_eq] at this
    rcases this with h | h
    · exact absurd h hne
    · rw [Array.any_eq_true'] at h
      obtain ⟨e, he, hh⟩ := h
      rw [Bool.and_eq_true, Bool.or_eq_true, decide_eq_true_eq] at hh
      obtain ⟨hb, hh⟩ := hh
      rcases hh with hh | hh
      · exact .inl ⟨e, he, hb, hh⟩
      · cases ho2 : ops[e.on]? with
        | none => rw [ho2] at hh; cases hh
        | some o2 =>
          rw [ho2] at hh
          simp only at hh
          rw [Array.any_eq_true'] at hh
          obtain ⟨e2, he2, hh2⟩ := hh
          rw [Bool.and_eq_true, decide_eq_true_eq] at hh2
          exact .inr ⟨e, he, hb, o2, ho2, e2, he2, hh2.1, hh2.2⟩
  · have := h1 i (List.mem_range.2 (Array.getElem?_eq_some_iff.1 hi).1)
    simp only [hi, Bool.and_eq_true] at this
    have h3 := Array.all_eq_true_iff_forall_mem.1 this.2 e he
    simpa [hb] using h3

/-- THE LAW: the others under the condition S, the last behind them. -/
theorem wp_region_last {P : Program} {ops : Array Oper} {Q : Exit → Act → World → Prop} {S : World → Prop} {id : Nat} {a : Act} {w : World} (n : Nat) (o : Oper) (hm : P.follows .mixedOrders = true) (ho : ops[n]? = some o) (hB : lastB .any ops n = true)
    (hS : S w.drew) (h : S w.drew → wpAnyH P .any (ops.setIfInBounds n (idle o)) (afterLast P ops Q n) S ops.size (Array.replicate ops.size false) a w.drew) : (Code.region id ops true).wp P Q a w := by
  obtain ⟨h1, h2, h3⟩ := lastB_spec ho hB
  have hn : n < ops.size := (Array.getElem?_eq_some_iff.1 ho).1
  exact wp_region_any hm (wpAny_last ho h1 h2 h3 _ _ _ _ (by simp) (by simp [hn]) (fun i oi hh => by rw [getD_replicate_false] at hh; cases hh) (wpAny_of_held _ _ _ _ (h hS)))
end Go.Proofs.YbulkaptmDoor
