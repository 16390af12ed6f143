/-
  Plain facts on bits and padding.
-/
import Derived.WalkKit
namespace Go.Proofs.YbulkaptmDoor
open Go.RowKit

theorem three_testBit (i : Nat) : (3 : Nat).testBit i = decide (i < 2) := by
  match i with
  | 0 => rfl
  | 1 => rfl
  | k + 2 =>
    rw [Nat.testBit_eq_decide_div_mod_eq]
    have : 3 / 2 ^ (k + 2) = 0 := Nat.div_eq_of_lt (by have := Nat.one_le_two_pow (n := k); have e := Nat.pow_add 2 k 2; omega)
    simp [this]

theorem and_not3 (m : Nat) (h : m < 2 ^ 64) : m &&& (2 ^ 64 - (3 + 1)) = m / 4 * 4 := by
  apply Nat.eq_of_testBit_eq
  intro i
  have e : m / 4 * 4 = (m >>> 2) <<< 2 := by rw [Nat.shiftRight_eq_div_pow, Nat.shiftLeft_eq]
  rw [e, Nat.testBit_and, Nat.testBit_two_pow_sub_succ (by decide), three_testBit, Nat.testBit_shiftLeft, Nat.testBit_shiftRight]
  by_cases h2 : i < 2
  · simp [h2, show ¬ (2 ≤ i) by omega]
  · by_cases h64 : i < 64
    · simp [h2, h64, show 2 ≤ i by omega, show 2 + (i - 2) = i by omega]
    · have : m.testBit i = false := Nat.testBit_lt_two_pow (Nat.lt_of_lt_of_le h (Nat.pow_le_pow_right (by omega) (by omega)))
      simp [h64, show 2 ≤ i by omega, show 2 + (i - 2) = i by omega, this]

theorem andNot3 (m : Nat) (h : m < 1099511627776) : bits .andNot .i64 (m : Int) 3 = ((m / 4 * 4 : Nat) : Int) := by
  show IntKind.i64.wrap ((BitVec.ofInt 64 (m : Int) &&& ~~~BitVec.ofInt 64 3).toNat : Int) = _
  have e1 : (BitVec.ofInt 64 (m : Int)).toNat = m := by
    rw [BitVec.toNat_ofInt]
    omega
  have e2 : (BitVec.ofInt 64 3).toNat = 3 := by decide
  rw [BitVec.toNat_and, BitVec.toNat_not, e1, e2, show 2 ^ 64 - 1 - 3 = 2 ^ 64 - (3 + 1) from rfl, and_not3 m (by omega), IntKind.wrap_i64]
  omega

/-- The padded length. -/
theorem padded_eq (n : Nat) (h : n < 1000000000) : bits .andNot .i64 ((n : Int) + 3) 3 = (((n + 3) / 4 * 4 : Nat) : Int) := by
  have := andNot3 (n + 3) (by omega)
  rw [← this]
  rfl
end Go.Proofs.YbulkaptmDoor
