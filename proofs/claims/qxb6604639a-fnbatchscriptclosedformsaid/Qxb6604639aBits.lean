import Derived.WalkKit
namespace Go.Proofs.Qxb6604639a
open Go

theorem ofInt_nat (n : Nat) : BitVec.ofInt 64 (n : Int) = BitVec.ofNat 64 n := by
  apply BitVec.eq_of_toNat_eq
  rw [BitVec.toNat_ofInt, BitVec.toNat_ofNat]
  omega
theorem wrap_u64_nat (n : Nat) (h : n < 18446744073709551616) : IntKind.u64.wrap (n : Int) = n := by
  rw [IntKind.wrap_u64]; omega

theorem and_nat (n m : Nat) (hn : n < 1073741824) : bits .and .u64 (n : Int) (m : Int) = ((n &&& (m % 18446744073709551616) : Nat) : Int) := by
  show IntKind.u64.wrap (((BitVec.ofInt 64 (n : Int)) &&& (BitVec.ofInt 64 (m : Int))).toNat : Int) = _
  rw [ofInt_nat, ofInt_nat, BitVec.toNat_and, BitVec.toNat_ofNat, BitVec.toNat_ofNat]
  have e : n % 2 ^ 64 = n := Nat.mod_eq_of_lt (by omega)
  rw [e]
  exact wrap_u64_nat _ (Nat.lt_of_le_of_lt Nat.and_le_left (by omega))

theorem and_mask (n : Int) (h0 : 0 ≤ n) (h1 : n < 1000000000) : bits .and .u64 n 1073741823 = n := by
  obtain ⟨k, rfl⟩ := Int.eq_ofNat_of_zero_le h0
  have := and_nat k 1073741823 (by omega)
  have e : 1073741823 % 18446744073709551616 = 2 ^ 30 - 1 := by decide
  rw [e, Nat.and_two_pow_sub_one_eq_mod, Nat.mod_eq_of_lt (by omega)] at this
  exact this
theorem and_top (n : Int) (h0 : 0 ≤ n) (h1 : n < 1000000000) : bits .and .u64 n 9223372036854775808 = 0 := by
  obtain ⟨k, rfl⟩ := Int.eq_ofNat_of_zero_le h0
  have := and_nat k 9223372036854775808 (by omega)
  have e : 9223372036854775808 % 18446744073709551616 = 2 ^ 63 := by decide
  have e2 : k &&& 2 ^ 63 = 0 := by
    apply Nat.eq_of_testBit_eq
    intro i
    rw [Nat.testBit_and, Nat.testBit_two_pow, Nat.zero_testBit]
    by_cases hi : 63 = i
    · subst hi
      rw [Nat.testBit_lt_two_pow (by omega)]; rfl
    · simp [hi]
  rw [e, e2] at this
  exact this
theorem and_and_bd (n m : Int) (h0 : 0 ≤ n) (h1 : n < 1000000000) (g0 : 0 ≤ m) (g1 : m < 1000000000) : 0 ≤ bits .and .u64 n m ∧ bits .and .u64 n m < 1000000000 := by
  obtain ⟨k, rfl⟩ := Int.eq_ofNat_of_zero_le h0
  obtain ⟨j, rfl⟩ := Int.eq_ofNat_of_zero_le g0
  have := and_nat k j (by omega)
  rw [this]
  have : k &&& (j % 18446744073709551616) ≤ k := Nat.and_le_left
  omega
theorem and_and_top (n m : Int) (h0 : 0 ≤ n) (h1 : n < 1000000000) (g0 : 0 ≤ m) (g1 : m < 1000000000) : bits .and .u64 (bits .and .u64 n m) 9223372036854775808 = 0 := by
  have := and_and_bd n m h0 h1 g0 g1
  exact and_top _ this.1 this.2
theorem andNot_mask (n : Int) (h0 : 0 ≤ n) (h1 : n < 1000000000) : bits .andNot .u64 n 1073741823 = 0 := by
  obtain ⟨k, rfl⟩ := Int.eq_ofNat_of_zero_le h0
  show IntKind.u64.wrap (((BitVec.ofInt 64 (k : Int)) &&& ~~~ (BitVec.ofInt 64 ((1073741823 : Nat) : Int))).toNat : Int) = _
  rw [ofInt_nat, ofInt_nat]
  have e : BitVec.ofNat 64 k &&& ~~~ BitVec.ofNat 64 1073741823 = 0#64 := by
    apply BitVec.eq_of_getLsbD_eq
    intro i hi
    rw [BitVec.getLsbD_and, BitVec.getLsbD_not, BitVec.getLsbD_ofNat, BitVec.getLsbD_ofNat, BitVec.getLsbD_zero]
    have e30 : 1073741823 = 2 ^ 30 - 1 := by decide
    by_cases h30 : i < 30
    · rw [e30, Nat.testBit_two_pow_sub_one]; simp [h30]
    · have hk : k.testBit i = false := Nat.testBit_lt_two_pow (Nat.lt_of_lt_of_le (show k < 2 ^ 30 by omega) (Nat.pow_le_pow_right (by decide) (by omega)))
      simp [hk]
  rw [e]
  decide
theorem or_zero (n : Int) (h0 : 0 ≤ n) (h1 : n < 1000000000) : bits .or .u64 0 n = n := by
  obtain ⟨k, rfl⟩ := Int.eq_ofNat_of_zero_le h0
  show IntKind.u64.wrap (((BitVec.ofInt 64 ((0 : Nat) : Int)) ||| (BitVec.ofInt 64 (k : Int))).toNat : Int) = _
  rw [ofInt_nat, ofInt_nat, BitVec.toNat_or, BitVec.toNat_ofNat, BitVec.toNat_ofNat]
  have e : k % 2 ^ 64 = k := Nat.mod_eq_of_lt (by omega)
  rw [e]
  simp only [Nat.zero_mod, Nat.zero_or]
  exact wrap_u64_nat _ (by omega)
end Go.Proofs.Qxb6604639a
