import Derived.Laws.BitsAllLaws
namespace Go.Proofs.Qxb6003734a

/-- The nanoseconds' mask leaves a number below 2^30 as it is. -/
theorem mask_ns (m : Int) (h0 : 0 ≤ m) (h1 : m < 1000000000) : bits BinOp.and IntKind.u64 m 1073741823 = m := by
  rw [u64_and _ _ h0 (by omega) (by decide) (by decide)]
  have : m.toNat &&& (1073741823 : Int).toNat = m.toNat % 2 ^ 30 := Nat.and_two_pow_sub_one_eq_mod m.toNat 30
  rw [this]; omega
theorem mask_mono (m : Int) (h0 : 0 ≤ m) (h1 : m < 1000000000) : bits BinOp.and IntKind.u64 m 9223372036854775808 = 0 := by
  rw [u64_and _ _ h0 (by omega) (by decide) (by decide)]
  have := nat_bit 63 m.toNat
  rw [show (9223372036854775808 : Int).toNat = 2 ^ 63 from rfl, this, Nat.div_eq_of_lt (by omega)]
  rfl
theorem strip_ns (m : Int) (h0 : 0 ≤ m) (h1 : m < 1000000000) : bits BinOp.andNot IntKind.u64 m 1073741823 = 0 := by
  rw [u64_andNot _ _ h0 (by omega) (by decide) (by decide)]
  have e : m.toNat &&& (18446744073709551615 - (1073741823 : Int).toNat) = 0 := by
    rw [show 18446744073709551615 - (1073741823 : Int).toNat = 2 ^ 30 * 17179869183 from rfl]
    apply Nat.eq_of_testBit_eq
    intro i
    rw [Nat.testBit_and, Nat.zero_testBit, Nat.testBit_two_pow_mul]
    by_cases hi : 30 ≤ i
    · rw [Nat.testBit_lt_two_pow (Nat.lt_of_lt_of_le (show m.toNat < 2 ^ 30 by omega) (Nat.pow_le_pow_right (by decide) hi))]; simp
    · simp [hi]
  rw [e]; rfl
theorem or_zero_ns (m : Int) (h0 : 0 ≤ m) (h1 : m < 1000000000) : bits BinOp.or IntKind.u64 0 m = m := by
  rw [u64_or _ _ (by decide) (by decide) h0 (by omega)]
  simp; omega
end Go.Proofs.Qxb6003734a
