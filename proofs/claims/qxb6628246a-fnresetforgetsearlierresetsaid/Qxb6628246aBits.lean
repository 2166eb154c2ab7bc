/-
  Bits of a 64-bit word that is below 2^30.
-/
import Derived.WalkKit
namespace Go.Proofs.Qxb6628246a.Tm
open Go.RowKit

theorem nat_and_mask (a : Nat) (h : a < 1073741824) : a &&& 1073741823 = a := by
  have := Nat.and_two_pow_sub_one_eq_mod a 30
  rw [show 2 ^ 30 - 1 = 1073741823 from rfl, show 2 ^ 30 = 1073741824 from rfl] at this
  rw [this, Nat.mod_eq_of_lt h]

theorem nat_and_high (a : Nat) (h : a < 1073741824) : a &&& 9223372036854775808 = 0 := by
  apply Nat.eq_of_testBit_eq
  intro i
  rw [Nat.testBit_and, show 9223372036854775808 = 2 ^ 63 from rfl, Nat.testBit_two_pow, Nat.zero_testBit]
  by_cases e : 63 = i
  · subst e
    rw [Nat.testBit_lt_two_pow (by omega)]
    rfl
  · simp [e]

theorem nat_and_clear (a : Nat) (h : a < 1073741824) : a &&& (18446744073709551615 - 1073741823) = 0 := by
  apply Nat.eq_of_testBit_eq
  intro i
  rw [Nat.testBit_and, Nat.zero_testBit, show 18446744073709551615 - 1073741823 = 2 ^ 30 * 17179869183 from rfl, Nat.testBit_two_pow_mul]
  by_cases e : 30 ≤ i
  · rw [Nat.testBit_lt_two_pow (Nat.lt_of_lt_of_le h (by rw [show 1073741824 = 2 ^ 30 from rfl]; exact Nat.pow_le_pow_right (by omega) e))]
    rfl
  · simp [e]

theorem and_mask (x : Int) (h0 : 0 ≤ x) (h1 : x < 1073741824) : bits .and .u64 x 1073741823 = x := by
  rw [u64_and x 1073741823 h0 (by omega) (by omega) (by omega)]
  rw [show (1073741823 : Int).toNat = 1073741823 from rfl, nat_and_mask _ (by omega)]
  omega

theorem and_high (x : Int) (h0 : 0 ≤ x) (h1 : x < 1073741824) : bits .and .u64 x 9223372036854775808 = 0 := by
  rw [u64_and x 9223372036854775808 h0 (by omega) (by omega) (by omega)]
  rw [show (9223372036854775808 : Int).toNat = 9223372036854775808 from rfl, nat_and_high _ (by omega)]
  rfl

theorem andNot_or (x y : Int) (h0 : 0 ≤ x) (h1 : x < 1073741824) (y0 : 0 ≤ y) (y1 : y < 1073741824) : bits .or .u64 (bits .andNot .u64 x 1073741823) y = y := by
  rw [u64_andNot x 1073741823 h0 (by omega) (by omega) (by omega)]
  rw [show (1073741823 : Int).toNat = 1073741823 from rfl, nat_and_clear _ (by omega)]
  rw [u64_or _ y (by omega) (by omega) y0 (by omega)]
  simp
  omega

theorem and_and_high (x y : Int) (h0 : 0 ≤ x) (h1 : x < 1073741824) (y0 : 0 ≤ y) (y1 : y < 1073741824) : bits .and .u64 (bits .and .u64 x y) 9223372036854775808 = 0 := by
  rw [u64_and x y h0 (by omega) y0 (by omega)]
  have : x.toNat &&& y.toNat ≤ x.toNat := Nat.and_le_left
  exact and_high _ (by omega) (by omega)

end Go.Proofs.Qxb6628246a.Tm
