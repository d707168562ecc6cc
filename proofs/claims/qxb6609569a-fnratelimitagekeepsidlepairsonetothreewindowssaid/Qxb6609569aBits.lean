/-
  Plain lemmas on the words that package time packs into 'wall': a wall below 2^30 is its own nanoseconds, and bears no monotonic mark.
-/
import Derived.Laws.BitsAllLaws
namespace Go.Proofs.Qxb6609569a
open Go

theorem and_mask {n : Int} (h0 : 0 ≤ n) (h1 : n < 1000000000) : bits .and .u64 n 1073741823 = n := by
  rw [u64_and n 1073741823 h0 (by omega) (by omega) (by omega)]
  have e : (1073741823 : Int).toNat = 2 ^ 30 - 1 := by decide
  rw [e, Nat.and_two_pow_sub_one_eq_mod, Nat.mod_eq_of_lt (by omega)]
  omega

theorem and_high {x i : Nat} (k : Nat) (h : x < 2 ^ i) : x &&& (2 ^ i * k) = 0 := by
  apply Nat.eq_of_testBit_eq
  intro j
  rw [Nat.testBit_and, Nat.zero_testBit]
  by_cases hj : i ≤ j
  · rw [Nat.testBit_lt_two_pow (Nat.lt_of_lt_of_le h (Nat.pow_le_pow_right (by omega) hj))]
    rfl
  · rw [Nat.testBit_two_pow_mul]
    simp [hj]

theorem and_mono {n : Int} (h0 : 0 ≤ n) (h1 : n < 1000000000) : bits .and .u64 n 9223372036854775808 = 0 := by
  rw [u64_and n 9223372036854775808 h0 (by omega) (by omega) (by omega)]
  have e : (9223372036854775808 : Int).toNat = 2 ^ 63 * 1 := by decide
  rw [e, and_high 1 (show n.toNat < 2 ^ 63 by omega)]
  rfl

theorem and_none (n : Int) (h0 : 0 ≤ n) (h1 : n < 18446744073709551616) (m : Int) (g0 : 0 ≤ m) (g1 : m < 1000000000) : bits .and .u64 (bits .and .u64 n m) 9223372036854775808 = 0 := by
  rw [u64_and n m h0 h1 g0 (by omega)]
  have hle : n.toNat &&& m.toNat ≤ m.toNat := Nat.and_le_right
  exact and_mono (by omega) (by omega)

theorem andNot_mask {n : Int} (h0 : 0 ≤ n) (h1 : n < 1000000000) : bits .andNot .u64 n 1073741823 = 0 := by
  rw [u64_andNot n 1073741823 h0 (by omega) (by omega) (by omega)]
  have e : (18446744073709551615 - (1073741823 : Int).toNat) = 2 ^ 30 * 17179869183 := by decide
  rw [e]
  have z := and_high 17179869183 (show n.toNat < 2 ^ 30 by omega)
  rw [z]
  rfl

theorem or_zero {n : Int} (h0 : 0 ≤ n) (h1 : n < 1000000000) : bits .or .u64 0 n = n := by
  rw [u64_or 0 n (by omega) (by omega) h0 (by omega)]
  have : (0 : Int).toNat ||| n.toNat = n.toNat := by simp
  rw [this]
  omega

end Go.Proofs.Qxb6609569a
