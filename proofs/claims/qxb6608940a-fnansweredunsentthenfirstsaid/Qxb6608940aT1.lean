import Derived.Test.Qxb6608940aProg
import Derived.Laws.BitsAllLaws
namespace Go.Proofs.Qxb6608940a

/-! THE PLAIN FACTS on the bits of a wall clock without a monotonic reading. -/
theorem nat_mask (a : Nat) (h : a < 1073741824) : a &&& 1073741823 = a := by
  have := Nat.and_two_pow_sub_one_eq_mod a 30
  rw [show (2 : Nat) ^ 30 - 1 = 1073741823 by decide] at this
  rw [this, Nat.mod_eq_of_lt (by simpa using h)]

theorem nat_top (a : Nat) (h : a < 1073741824) : a &&& 9223372036854775808 = 0 := by
  apply Nat.eq_of_testBit_eq
  intro i
  rw [Nat.testBit_and, Nat.zero_testBit]
  rcases Nat.lt_or_ge i 30 with hi | hi
  · have e : 9223372036854775808 = 2 ^ 30 * 8589934592 := by decide
    rw [e, Nat.testBit_two_pow_mul]
    simp
    omega
  · rw [Nat.testBit_lt_two_pow (Nat.lt_of_lt_of_le h (Nat.pow_le_pow_right (by decide : 0 < 2) hi))]
    simp

theorem nat_strip (a : Nat) (h : a < 1073741824) : a &&& (18446744073709551615 - 1073741823) = 0 := by
  apply Nat.eq_of_testBit_eq
  intro i
  rw [Nat.testBit_and, Nat.zero_testBit]
  rcases Nat.lt_or_ge i 30 with hi | hi
  · have e : 18446744073709551615 - 1073741823 = 2 ^ 30 * 17179869183 := by decide
    rw [e, Nat.testBit_two_pow_mul]
    simp
    omega
  · rw [Nat.testBit_lt_two_pow (Nat.lt_of_lt_of_le h (Nat.pow_le_pow_right (by decide : 0 < 2) hi))]
    simp

theorem u64_mask (x : Int) (h0 : 0 ≤ x) (h1 : x < 1073741824) : bits .and .u64 x 1073741823 = x := by
  rw [u64_and x 1073741823 h0 (by omega) (by omega) (by omega)]
  rw [show (1073741823 : Int).toNat = 1073741823 from rfl, nat_mask _ (by omega)]
  omega

theorem u64_top (x : Int) (h0 : 0 ≤ x) (h1 : x < 1073741824) : bits .and .u64 x 9223372036854775808 = 0 := by
  rw [u64_and x 9223372036854775808 h0 (by omega) (by omega) (by omega)]
  rw [show (9223372036854775808 : Int).toNat = 9223372036854775808 from rfl, nat_top _ (by omega)]
  rfl

theorem u64_strip (x : Int) (h0 : 0 ≤ x) (h1 : x < 1073741824) : bits .andNot .u64 x 1073741823 = 0 := by
  rw [u64_andNot x 1073741823 h0 (by omega) (by omega) (by omega)]
  rw [show (1073741823 : Int).toNat = 1073741823 from rfl, nat_strip _ (by omega)]
  rfl

theorem u64_zero_or (x : Int) (h0 : 0 ≤ x) (h1 : x < 18446744073709551616) : bits .or .u64 0 x = x := by
  rw [u64_or 0 x (by omega) (by omega) h0 h1]
  rw [show (0 : Int).toNat = 0 from rfl, Nat.zero_or]
  omega

theorem u64_two (x y : Int) (h0 : 0 ≤ x) (h1 : x < 1073741824) (g0 : 0 ≤ y) (g1 : y < 1073741824) : bits .and .u64 (bits .and .u64 x y) 9223372036854775808 = 0 := by
  rw [u64_and x y h0 (by omega) g0 (by omega)]
  have : x.toNat &&& y.toNat ≤ x.toNat := Nat.and_le_left
  exact u64_top _ (by omega) (by omega)

/-! THE PLAIN FACTS on seconds and nanoseconds. -/
theorem split_rem (d : Int) : d = d.tdiv 1000000000 * 1000000000 + d.tmod 1000000000 ∧ -1000000000 < d.tmod 1000000000 ∧ d.tmod 1000000000 < 1000000000 := by
  have h := Int.mul_tdiv_add_tmod d 1000000000
  refine ⟨by omega, ?_, ?_⟩
  · rcases Int.lt_or_le d 0 with hx | hx
    · obtain ⟨y, rfl⟩ : ∃ y, d = -y := ⟨-d, by omega⟩
      rw [Int.neg_tmod, Int.tmod_eq_emod_of_nonneg (by omega)]
      omega
    · rw [Int.tmod_eq_emod_of_nonneg hx]
      omega
  · rcases Int.lt_or_le d 0 with hx | hx
    · obtain ⟨y, rfl⟩ : ∃ y, d = -y := ⟨-d, by omega⟩
      rw [Int.neg_tmod, Int.tmod_eq_emod_of_nonneg (by omega)]
      omega
    · rw [Int.tmod_eq_emod_of_nonneg hx]
      omega

end Go.Proofs.Qxb6608940a
