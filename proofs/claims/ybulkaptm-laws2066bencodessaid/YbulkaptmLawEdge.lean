/-
  LawS2066BEncodes at no AVP, and at more than 256.
-/
import Derived.Test.YbulkaptmLaw
namespace Go.Proofs.Ybulkaptm
open Go.RowKit
set_option linter.unusedVariables false

theorem law_long (name : ByteArray) (code vendor typ : Int) (mand : Bool) (ao : Option Addr) (len cap : Nat) (W : World) (hl : (256 : Int) < len) :
    Calls Yba.prog 3 #[.string name, .int .u32 code, .int .u32 vendor, .bool mand, .int .u8 typ, .slice ao len cap] W fun e w' => e = .returned (.bool true) ∧ Below W.heap.size W w' := by
  go_enter Yba.func3, Yba.ntmps3
  go_wp2_with fail
  refine (small_long ao len cap _ hl).mono ?_
  rintro e w0 ⟨rfl, rfl⟩
  go_wp2
  go_ret
  exact ⟨rfl, Below.refl _ _⟩

set_option maxRecDepth 100000 in
set_option maxHeartbeats 3200000 in
theorem law_none (name : ByteArray) (code vendor typ : Int) (mand : Bool) (ao : Option Addr) (cap : Nat) (W : World) :
    Calls Yba.prog 3 #[.string name, .int .u32 code, .int .u32 vendor, .bool mand, .int .u8 typ, .slice ao 0 cap] W fun e w' => e = .returned (.bool true) ∧ Below W.heap.size W w' := by
  go_enter Yba.func3, Yba.ntmps3
  go_wp2_with fail
  refine (small_none ao cap _).mono ?_
  rintro e w0 ⟨rfl, rfl⟩
  go_wp2_with fail
  have HB0 : Hid (Below w0.heap.size w0 (w0.alloc (.cells #[.string name, .int .u32 code, .int .u32 vendor, .bool mand, .int .u8 typ] 27))) := (Below.refl _ w0).alloc (Nat.le_refl _) _
  refine (Group_none name code vendor typ mand ao cap _).mono ?_
  rintro e w1 ⟨g, T, hT, rfl, hown, hb⟩
  obtain rfl : T = 0 := hT
  have HO1 : Hid (w1.ownsRow (w0.heap.size + 1) 5 1 (.slice (some ⟨g, 0, none⟩) 0 0) 0 ([].map (Value.int .u8))) := by
    show World.ownsRow _ _ _ _ _ _ _
    simpa [encAll] using hown
  have HB1 : Hid (Below w0.heap.size w0 w1) := HB0.out.trans (hb.mono (by simp))
  clear hown hb HB0
  have e1 : bits BinOp.or IntKind.u8 0 128 = 128 := by decide
  have e2 : bits BinOp.or IntKind.u8 128 64 = 192 := by decide
  have e3 : bits BinOp.or IntKind.u8 0 64 = 64 := by decide
  obtain ⟨f1, hf1⟩ : ∃ f1 : Int, f1 = if vendor = 0 then 0 else 128 := ⟨_, rfl⟩
  obtain ⟨fl, hfl⟩ : ∃ fl : Int, fl = aflags vendor mand := ⟨_, rfl⟩
  rw [← hfl]
  have HF1 : Hid (f1 = if vendor = 0 then 0 else 128) := hf1
  have HFL : Hid (fl = f1 + if mand then 64 else 0) := by show fl = _; rw [hfl, hf1]; rfl
  clear hf1 hfl
  go_upto_if 34 with fail
  go_cut [15] (fun s15 wc => s15 = .int .u8 f1 ∧ wc = w1.alloc (.cells #[.int .u32 code, .int .u8 fl, .int .u32 vendor, .slice (some ⟨g, 0, none⟩) 0 0] 30))
  case first =>
    rcases (show (vendor != 0) = true ∨ (vendor != 0) = false by cases (vendor != 0) <;> simp) with hv | hv
    · go_wp2_with fail
      go_meet
      case rel => exact ⟨by rw [HF1.out, if_neg (bne_iff_ne.1 hv)], rfl⟩
    · go_wp2_with fail
      go_meet
      case rel => exact ⟨by rw [HF1.out, if_pos (by simpa using hv)], rfl⟩
  case rest =>
    obtain ⟨rfl, rfl⟩ := hcut
    go_upto_if 37 with fail
    go_cut [15] (fun s15 wc => s15 = .int .u8 fl ∧ wc = w1.alloc (.cells #[.int .u32 code, .int .u8 fl, .int .u32 vendor, .slice (some ⟨g, 0, none⟩) 0 0] 30))
    case first =>
      cases mand
      · go_wp2_with fail
        go_meet
        case rel => exact ⟨by rw [HFL.out]; simp, rfl⟩
      · have hv : f1 = 0 ∨ f1 = 128 := by rw [HF1.out]; split <;> simp
        rcases hv with hv | hv
        · subst hv
          go_wp2_with fail
          go_meet
          case rel => exact ⟨by rw [HFL.out]; rfl, rfl⟩
        · subst hv
          go_wp2_with fail
          go_meet
          case rel => exact ⟨by rw [HFL.out]; rfl, rfl⟩
    case rest =>
      obtain ⟨rfl, rfl⟩ := hcut
      have HBB : Hid (Below w0.heap.size w0 (w1.alloc (.cells #[.int .u32 code, .int .u8 fl, .int .u32 vendor, .slice (some ⟨g, 0, none⟩) 0 0] 30))) := HB1.out.alloc HB1.out.size _
      go_wp2_with fail
      refine wp_loop_rounds 1 ?_
      rw [rounds_succ]
      go_wp2_with fail
      refine (equal_same (w0.heap.size + 1) 0 0 0 _ (.slice none 0 0) [] _ (HO1.out.alloc _) (World.ownsRow_nil _ _ _ _)).mono ?_
      rintro e w3 ⟨rfl, rfl⟩
      go_wp2
      go_ret
      exact ⟨rfl, HBB.out⟩
end Go.Proofs.Ybulkaptm
