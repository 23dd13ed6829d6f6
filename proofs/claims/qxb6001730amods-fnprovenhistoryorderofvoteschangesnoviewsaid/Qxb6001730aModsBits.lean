import Derived.WalkKit
namespace Go.Proofs.Qxb6001730aMods

theorem and_low (n : Nat) : n &&& 4294967295 = n % 4294967296 := Nat.and_two_pow_sub_one_eq_mod n 32

theorem and_high (n : Nat) (h : n < 18446744073709551616) : n &&& 18446744069414584320 = n / 4294967296 * 4294967296 := by
  have e : (18446744069414584320 : Nat) = 4294967295 <<< 32 := by decide
  have e2 : n / 4294967296 * 4294967296 = (n >>> 32) <<< 32 := by rw [Nat.shiftRight_eq_div_pow, Nat.shiftLeft_eq]
  rw [e, e2]
  apply Nat.eq_of_testBit_eq
  intro i
  rw [Nat.testBit_and, Nat.testBit_shiftLeft, Nat.testBit_shiftLeft, Nat.testBit_shiftRight]
  by_cases hi : 32 ≤ i
  · have e3 : 32 + (i - 32) = i := by omega
    rw [e3]
    by_cases hj : i < 64
    · have : (4294967295 : Nat).testBit (i - 32) = true := by
        have := Nat.testBit_two_pow_sub_one 32 (i - 32)
        rw [show (4294967295 : Nat) = 2 ^ 32 - 1 by decide, this]; simp; omega
      simp [hi, this]
    · have : n.testBit i = false := Nat.testBit_lt_two_pow (Nat.lt_of_lt_of_le h (by
        have := Nat.pow_le_pow_right (n := 2) (by decide) (show 64 ≤ i by omega)
        exact this))
      simp [this]
  · simp [hi]

theorem or_low (q r : Nat) (h : r < 4294967296) : q * 4294967296 ||| r = q * 4294967296 + r := by
  have := Nat.shiftLeft_add_eq_or_of_lt (b := r) (i := 32) h q
  rw [Nat.shiftLeft_eq] at this
  exact this.symm

/-- The round of a view. -/
theorem bits_low (V : Nat) (h : V < 18446744073709551616) : bits .and .u64 (V : Int) 4294967295 = ((V % 4294967296 : Nat) : Int) := by
  have := u64_and (V : Int) 4294967295 (by omega) (by omega) (by omega) (by omega)
  rw [this, ← and_low]; rfl

/-- The saving view of a view's epoch. -/
theorem bits_high (V : Nat) (h : V < 18446744073709551616) : bits .andNot .u64 (V : Int) 4294967295 = ((V / 4294967296 * 4294967296 : Nat) : Int) := by
  have := u64_andNot (V : Int) 4294967295 (by omega) (by omega) (by omega) (by omega)
  rw [this, ← and_high V h]; rfl

theorem bits_or (q r : Nat) (hq : q < 4294967296) (hr : r < 4294967296) : bits .or .u64 ((q * 4294967296 : Nat) : Int) (r : Int) = ((q * 4294967296 + r : Nat) : Int) := by
  have := u64_or ((q * 4294967296 : Nat) : Int) (r : Int) (by omega) (by omega) (by omega) (by omega)
  rw [this, ← or_low q r hr]; rfl

theorem saving_round (V : Nat) (h : V < 18446744073709551616) : bits .and .u64 (bits .andNot .u64 (V : Int) 4294967295) 4294967295 = 0 := by
  rw [bits_high V h, bits_low _ (by omega)]; omega

end Go.Proofs.Qxb6001730aMods
