import Derived.Test.YbulkbdeyBits
import Derived.WalkKit
namespace Go.Proofs.Ybulkbdey
open Go.RowKit

theorem ret_int {k : IntKind} {a b : Int} (h : a = b) : Ending.returned (.int k a) = .returned (.int k b) := by rw [h]

theorem and7 (p : Nat) (h : p < 18446744073709551616) : bits .and .u64 (p : Int) 7 = ((p % 8 : Nat) : Int) := by
  rw [show (7 : Int) = ((7 : Nat) : Int) from rfl, bits_and_u64_nat p 7 h (by decide)]
  congr 1
  exact Nat.and_two_pow_sub_one_eq_mod p 3

theorem and1 (p : Nat) (h : p < 18446744073709551616) : bits .and .u64 (p : Int) 1 = ((p % 2 : Nat) : Int) := by
  rw [show (1 : Int) = ((1 : Nat) : Int) from rfl, bits_and_u64_nat p 1 h (by decide)]
  congr 1
  exact Nat.and_two_pow_sub_one_eq_mod p 1

theorem or_nat (a b : Nat) (ha : a < 18446744073709551616) (hb : b < 18446744073709551616) : bits .or .u64 (a : Int) (b : Int) = ((a ||| b : Nat) : Int) := bits_or_u64_nat a b ha hb

theorem or_add (a b n : Nat) (ha : a * 2 ^ n < 18446744073709551616) (hb : b < 2 ^ n) (hn : n ≤ 64) : bits .or .u64 ((a * 2 ^ n : Nat) : Int) (b : Int) = ((a * 2 ^ n + b : Nat) : Int) := by
  have hb' : b < 18446744073709551616 := Nat.lt_of_lt_of_le hb (Nat.pow_le_pow_right (by decide) hn)
  rw [or_nat _ _ ha hb']
  congr 1
  rw [Nat.mul_comm, ← Nat.two_pow_add_eq_or_of_lt hb]

theorem wrap_nat (a : Nat) (h : a < 18446744073709551616) : IntKind.u64.wrap (a : Int) = (a : Int) := by
  rw [IntKind.wrap_u64]; omega

theorem wrap_mod (a : Nat) : IntKind.u64.wrap (a : Int) = ((a % 18446744073709551616 : Nat) : Int) := by
  rw [IntKind.wrap_u64]; omega

theorem div_nat (a n : Nat) : (a : Int) / 2 ^ n = ((a / 2 ^ n : Nat) : Int) := by
  rw [Int.natCast_ediv, Int.natCast_pow]; rfl

theorem mul_nat (a n : Nat) : (a : Int) * 2 ^ n = ((a * 2 ^ n : Nat) : Int) := by
  rw [Int.natCast_mul, Int.natCast_pow]; rfl

end Go.Proofs.Ybulkbdey
