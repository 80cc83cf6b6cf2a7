import Derived.WalkKit
namespace Go.Proofs.Qxb6615104a
open Go

theorem and_mono (x : Int) (h0 : 0 ≤ x) (h1 : x < 1073741824) : bits .and .u64 x 9223372036854775808 = 0 := by
  rw [u64_and x _ h0 (by omega) (by decide) (by decide)]
  have : x.toNat &&& (9223372036854775808 : Int).toNat = 0 := by
    have := nat_bit 63 x.toNat
    simp only [show (9223372036854775808 : Int).toNat = 2 ^ 63 from by decide]
    rw [this, Nat.div_eq_of_lt (by omega)]
  rw [this]; rfl

theorem and_le (a b : Int) (a0 : 0 ≤ a) (a1 : a < 1073741824) (b0 : 0 ≤ b) (b1 : b < 1073741824) :
    0 ≤ bits .and .u64 a b ∧ bits .and .u64 a b < 1073741824 := by
  rw [u64_and a b a0 (by omega) b0 (by omega)]
  have : a.toNat &&& b.toNat ≤ a.toNat := Nat.and_le_left
  omega

theorem and2_mono (a b : Int) (a0 : 0 ≤ a) (a1 : a < 1073741824) (b0 : 0 ≤ b) (b1 : b < 1073741824) :
    bits .and .u64 (bits .and .u64 a b) 9223372036854775808 = 0 :=
  and_mono _ (and_le a b a0 a1 b0 b1).1 (and_le a b a0 a1 b0 b1).2

theorem and_mask (x : Int) (h0 : 0 ≤ x) (h1 : x < 1073741824) : bits .and .u64 x 1073741823 = x := by
  rw [u64_and x _ h0 (by omega) (by decide) (by decide)]
  have e : x.toNat &&& (1073741823 : Int).toNat = x.toNat := by
    simp only [show (1073741823 : Int).toNat = 2 ^ 30 - 1 from by decide]
    rw [Nat.and_two_pow_sub_one_eq_mod]; exact Nat.mod_eq_of_lt (by omega)
  rw [e]; omega

theorem andNot_zero : bits .andNot .u64 0 1073741823 = 0 := by
  rw [u64_andNot 0 _ (by decide) (by decide) (by decide) (by decide)]; simp

theorem or_zero (x : Int) (h0 : 0 ≤ x) (h1 : x < 1073741824) : bits .or .u64 0 x = x := by
  rw [u64_or 0 x (by decide) (by decide) h0 (by omega)]; simp; omega

end Go.Proofs.Qxb6615104a
