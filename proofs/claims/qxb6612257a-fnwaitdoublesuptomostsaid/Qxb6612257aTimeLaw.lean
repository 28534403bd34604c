/-
  THE BITS OF A TIME WITHOUT A MONOTONIC CLOCK: its 'wall' is the nanoseconds alone. No program in sight.
-/
import Derived.WalkKit
import Derived.Laws.BitsAllLaws
namespace Go.Proofs.Qxb6612257a

theorem wall_mask (n : Int) (h0 : 0 ≤ n) (h1 : n < 1073741824) : bits .and .u64 n 1073741823 = n := by
  rw [u64_and n 1073741823 h0 (by omega) (by decide) (by decide)]
  have : (1073741823 : Int).toNat = 2 ^ 30 - 1 := by decide
  rw [this, Nat.and_two_pow_sub_one_eq_mod]
  rw [Nat.mod_eq_of_lt (by omega)]
  omega
theorem wall_mono (n : Int) (h0 : 0 ≤ n) (h1 : n < 1073741824) : bits .and .u64 n 9223372036854775808 = 0 := by
  rw [u64_and n 9223372036854775808 h0 (by omega) (by decide) (by decide)]
  have : (9223372036854775808 : Int).toNat = 2 ^ 63 := by decide
  rw [this, nat_bit, Nat.div_eq_of_lt (by omega)]
  simp
theorem wall_clear (n : Int) (h0 : 0 ≤ n) (h1 : n < 1073741824) : bits .andNot .u64 n 1073741823 = 0 := by
  rw [u64_andNot n 1073741823 h0 (by omega) (by decide) (by decide)]
  obtain ⟨m, rfl⟩ := Int.eq_ofNat_of_zero_le h0
  have : (18446744073709551615 - (1073741823 : Int).toNat) = 2 ^ 64 - 2 ^ 30 := by decide
  rw [this, Int.toNat_natCast]
  have hm : m < 2 ^ 30 := by omega
  have : m &&& (2 ^ 64 - 2 ^ 30) = 0 := by
    apply Nat.eq_of_testBit_eq
    intro i
    rw [Nat.testBit_and, Nat.zero_testBit]
    by_cases hi : i < 30
    · have e : (2 ^ 64 - 2 ^ 30 : Nat) = (2 ^ 34 - 1) * 2 ^ 30 := by decide
      rw [e, Nat.testBit_mul_two_pow]
      simp; omega
    · have : m.testBit i = false := Nat.testBit_lt_two_pow (Nat.lt_of_lt_of_le hm (Nat.pow_le_pow_right (by decide) (by omega)))
      simp [this]
  rw [this]; rfl
theorem wall_set (n : Int) (h0 : 0 ≤ n) (h1 : n < 1073741824) : bits .or .u64 0 n = n := by
  rw [u64_or 0 n (by decide) (by decide) h0 (by omega)]
  simp; omega
theorem wall_both (m n : Int) (h0 : 0 ≤ m) (h1 : m < 1073741824) (h2 : 0 ≤ n) (h3 : n < 1073741824) : bits .and .u64 (bits .and .u64 m n) 9223372036854775808 = 0 := by
  rw [u64_and m n h0 (by omega) h2 (by omega)]
  refine wall_mono _ (by omega) ?_
  have : m.toNat &&& n.toNat ≤ m.toNat := Nat.and_le_left
  omega
end Go.Proofs.Qxb6612257a
