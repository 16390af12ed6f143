/-
  THE CHANNEL LOCK's TWO METHODS, in one goroutine: (handoffLock).Lock: a send into a buffer with room; (handoffLock).Unlock, as a deferred call: a receive from a buffer that holds something. After the guide's Cov3cWalks.lean (Derived/Conc/LoneCalls.lean).
-/
import Derived.Test.YbulkapsyProg
import Derived.Conc.LoneCalls
import Derived.KernelRfl
import Derived.Defers
namespace Go.Proofs.Ybulkapsy
open Go.Conc Go.RowKit

theorem build31 (w : World) : (Instr.build 31 #[]).run Yba.prog w = .ok (.agg #[]) w := by kernel_rfl

set_option maxRecDepth 100000 in
theorem lock_walk (c s r : Nat) (tm : Bool) (w : World) (hc : w.heap[c]? = some (.chan 1 #[] false s r tm)) :
    Calls Yba.prog 5 #[.chan (some c)] w fun e w' => e = .returned (.tuple #[]) ∧ w' = w.setChan c 1 #[.agg #[]] false (s + 1) r tm := by
  refine calls_of_loneTo fun cs => ?_
  have e : Frame.enter Yba.prog 5 #[.chan (some c)] .normal = (base 5).at ⟨#[.chan (some c), undef, undef, undef], []⟩ [.code (Yba.f5.body.getD .skip)] := by
    simp [Frame.enter, Frame.at, Yba.func5, base, Yba.f5]
  rw [e]
  have hb := build31
  refine LoneTo.goes (n := 3) ?_
  simp only [Yba.f5, Option.getD_some]
  s_reg
  s_op
  s_op
  s_stop
  refine LoneTo.step (step_lone_send_room (c := c) (cap := 1) (buf := #[]) (s := s) (r := r) (tm := tm) (stepG_comm (cases := #[scase c (.agg #[]) (.tuple #[])]) (blocking := true) (shape := .send) (w' := w) rfl rfl (by decide) (by simp [execOp, scase, Act.eval])) hc (by simp)) ?_
  rw [Frame.finish_at]
  walk_nrm
  refine LoneTo.goes (n := 2) ?_
  s_c stepG_region_end
  s_c stepG_end
  s_stop
  exact LoneTo.done ⟨.returned (.tuple #[]), _, rfl, ⟨rfl, rfl⟩, rfl, rfl, rfl, rfl, _, Yba.func5, by simp [results, Yba.f5, Frame.at]⟩

/-- A frame of a deferred call. -/
def baseD (f : FuncId) : Frame := { (default : Frame) with fn := f, kind := .deferred }

set_option maxRecDepth 100000 in
theorem unlock_deferred (c s r : Nat) (tm : Bool) (u : FrameMode) (w : World) (hc : w.heap[c]? = some (.chan 1 #[.agg #[]] false s r tm)) :
    CallsD Yba.prog 6 #[.chan (some c)] u w fun e u' w' => u' = u ∧ (e = .returned (.tuple #[]) ∧ w' = w.setChan c 1 #[] false s (r + 1) tm) := by
  intro c₀ cs hu
  have hc₀ : ({ c₀ with mode := u } : Frame) = c₀ := by subst hu; rfl
  have key : LoneTo Yba.prog (fun g' w' => ∃ fr, g' = G fr (c₀ :: cs) ∧ w' = w.setChan c 1 #[] false s (r + 1) tm ∧ fr.kind = .deferred ∧ fr.going Yba.prog w' (.returned (.tuple #[]))) (G (Frame.enter Yba.prog 6 #[.chan (some c)] .deferred) (c₀ :: cs)) w := by
    have e : Frame.enter Yba.prog 6 #[.chan (some c)] .deferred = (baseD 6).at ⟨#[.chan (some c), undef, undef, undef], []⟩ [.code (Yba.f6.body.getD .skip)] := by
      simp [Frame.enter, Frame.at, Yba.func6, baseD, Yba.f6]
    rw [e]
    refine LoneTo.goes (n := 2) ?_
    simp only [Yba.f6, Option.getD_some]
    s_reg
    s_op
    s_stop
    refine LoneTo.step (step_lone_recv_buf false (c := c) (z := .agg #[]) (stepG_comm (cases := #[rcase c (.agg #[])]) (blocking := true) (shape := .recv false) (w' := w) rfl rfl (by decide) (by simp [go_sem, rcase])) hc (by simp)) ?_
    rw [Frame.finish_at]
    simp only [got]
    walk_nrm
    refine LoneTo.goes (n := 2) ?_
    s_c stepG_region_end
    s_c stepG_end
    s_stop
    exact LoneTo.done ⟨_, rfl, rfl, rfl, rfl, rfl, _, Yba.func6, by simp [results, Yba.f6, Frame.at]⟩
  obtain ⟨g', w', hs, fr, rfl, rfl, hk, hg⟩ := key
  exact ⟨.returned (.tuple #[]), u, _, fr, ⟨rfl, rfl, rfl⟩, (by rw [hc₀]; exact hs), hk, hg⟩

end Go.Proofs.Ybulkapsy
