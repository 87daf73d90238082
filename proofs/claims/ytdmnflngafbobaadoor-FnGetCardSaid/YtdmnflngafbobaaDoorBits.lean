/-
  Sums and masks in place of '|' and '&' on unsigned numbers whose bits do not meet. Conditions: those that stand in each theorem.
-/
import Derived.Test.YtdmnflngafbobaaDoorRows
import Derived.Laws.BitsAllLaws
namespace Go.Proofs.YtdmnflngafbobaaDoor
set_option linter.unusedVariables false

theorem or64 (i : Nat) (a b : Int) (h0 : 0 ≤ a) (ha : a < 18446744073709551616) (hb0 : 0 ≤ b) (hb : b < 2 ^ i) (hi : (2 : Int) ^ i ≤ 18446744073709551616) (hd : a % 2 ^ i = 0) : bits .or .u64 a b = a + b := by
  obtain ⟨x, rfl⟩ := Int.eq_ofNat_of_zero_le h0
  obtain ⟨y, rfl⟩ := Int.eq_ofNat_of_zero_le hb0
  rw [u64_or_nat x y (by omega) (by omega), nat_join i x y (by exact_mod_cast hd) (by exact_mod_cast hb)]
  omega
theorem or32 (i : Nat) (a b : Int) (h0 : 0 ≤ a) (ha : a < 4294967296) (hb0 : 0 ≤ b) (hb : b < 2 ^ i) (hi : (2 : Int) ^ i ≤ 4294967296) (hd : a % 2 ^ i = 0) : bits .or .u32 a b = a + b := by
  obtain ⟨x, rfl⟩ := Int.eq_ofNat_of_zero_le h0
  obtain ⟨y, rfl⟩ := Int.eq_ofNat_of_zero_le hb0
  rw [u32_or_nat x y (by omega) (by omega), nat_join i x y (by exact_mod_cast hd) (by exact_mod_cast hb)]
  omega
theorem or16 (i : Nat) (a b : Int) (h0 : 0 ≤ a) (ha : a < 65536) (hb0 : 0 ≤ b) (hb : b < 2 ^ i) (hi : (2 : Int) ^ i ≤ 65536) (hd : a % 2 ^ i = 0) : bits .or .u16 a b = a + b := by
  obtain ⟨x, rfl⟩ := Int.eq_ofNat_of_zero_le h0
  obtain ⟨y, rfl⟩ := Int.eq_ofNat_of_zero_le hb0
  rw [u16_or_nat x y (by omega) (by omega), nat_join i x y (by exact_mod_cast hd) (by exact_mod_cast hb)]
  omega
theorem or8 (i : Nat) (a b : Int) (h0 : 0 ≤ a) (ha : a < 256) (hb0 : 0 ≤ b) (hb : b < 2 ^ i) (hi : (2 : Int) ^ i ≤ 256) (hd : a % 2 ^ i = 0) : bits .or .u8 a b = a + b := by
  obtain ⟨x, rfl⟩ := Int.eq_ofNat_of_zero_le h0
  obtain ⟨y, rfl⟩ := Int.eq_ofNat_of_zero_le hb0
  rw [u8_or_nat x y (by omega) (by omega), nat_join i x y (by exact_mod_cast hd) (by exact_mod_cast hb)]
  omega
/-- '|' with the lower part ahead. -/
theorem or64' (i : Nat) (a b : Int) (h0 : 0 ≤ a) (ha : a < 2 ^ i) (hi : (2 : Int) ^ i ≤ 18446744073709551616) (hb0 : 0 ≤ b) (hb : b < 18446744073709551616) (hd : b % 2 ^ i = 0) : bits .or .u64 a b = a + b := by
  obtain ⟨x, rfl⟩ := Int.eq_ofNat_of_zero_le h0
  obtain ⟨y, rfl⟩ := Int.eq_ofNat_of_zero_le hb0
  rw [u64_or_nat x y (by omega) (by omega), Nat.or_comm, nat_join i y x (by exact_mod_cast hd) (by exact_mod_cast ha)]
  omega
theorem or32' (i : Nat) (a b : Int) (h0 : 0 ≤ a) (ha : a < 2 ^ i) (hi : (2 : Int) ^ i ≤ 4294967296) (hb0 : 0 ≤ b) (hb : b < 4294967296) (hd : b % 2 ^ i = 0) : bits .or .u32 a b = a + b := by
  obtain ⟨x, rfl⟩ := Int.eq_ofNat_of_zero_le h0
  obtain ⟨y, rfl⟩ := Int.eq_ofNat_of_zero_le hb0
  rw [u32_or_nat x y (by omega) (by omega), Nat.or_comm, nat_join i y x (by exact_mod_cast hd) (by exact_mod_cast ha)]
  omega
theorem or16' (i : Nat) (a b : Int) (h0 : 0 ≤ a) (ha : a < 2 ^ i) (hi : (2 : Int) ^ i ≤ 65536) (hb0 : 0 ≤ b) (hb : b < 65536) (hd : b % 2 ^ i = 0) : bits .or .u16 a b = a + b := by
  obtain ⟨x, rfl⟩ := Int.eq_ofNat_of_zero_le h0
  obtain ⟨y, rfl⟩ := Int.eq_ofNat_of_zero_le hb0
  rw [u16_or_nat x y (by omega) (by omega), Nat.or_comm, nat_join i y x (by exact_mod_cast hd) (by exact_mod_cast ha)]
  omega
theorem or8' (i : Nat) (a b : Int) (h0 : 0 ≤ a) (ha : a < 2 ^ i) (hi : (2 : Int) ^ i ≤ 256) (hb0 : 0 ≤ b) (hb : b < 256) (hd : b % 2 ^ i = 0) : bits .or .u8 a b = a + b := by
  obtain ⟨x, rfl⟩ := Int.eq_ofNat_of_zero_le h0
  obtain ⟨y, rfl⟩ := Int.eq_ofNat_of_zero_le hb0
  rw [u8_or_nat x y (by omega) (by omega), Nat.or_comm, nat_join i y x (by exact_mod_cast hd) (by exact_mod_cast ha)]
  omega
theorem nat_and_low (i x : Nat) : x &&& (2 ^ i - 1) = x % 2 ^ i := Nat.and_two_pow_sub_one_eq_mod x i
/-- The mask of the bits from j on, i of them. -/
theorem nat_and_mid (i j x : Nat) : x &&& ((2 ^ i - 1) * 2 ^ j) = x / 2 ^ j % 2 ^ i * 2 ^ j := by
  have h : x &&& ((2 ^ i - 1) * 2 ^ j) = (x >>> j &&& (2 ^ i - 1)) <<< j := by
    rw [← Nat.shiftLeft_eq (2 ^ i - 1) j]
    apply Nat.eq_of_testBit_eq
    intro k
    simp only [Nat.testBit_and, Nat.testBit_shiftLeft, Nat.testBit_shiftRight]
    by_cases hj : j ≤ k
    · have : j + (k - j) = k := by omega
      simp [hj, this]
    · simp [hj]
  rw [h, nat_and_low, Nat.shiftLeft_eq, Nat.shiftRight_eq_div_pow]
theorem and64 (i : Nat) (a : Int) (m : Nat) (h0 : 0 ≤ a) (ha : a < 18446744073709551616) (hm : m = 2 ^ i - 1) (hm' : m < 18446744073709551616) : bits .and .u64 a (m : Int) = a % 2 ^ i := by
  obtain ⟨x, rfl⟩ := Int.eq_ofNat_of_zero_le h0
  rw [u64_and_nat x m (by omega) hm', hm, nat_and_low]
  exact_mod_cast rfl
theorem and64m (i j : Nat) (a : Int) (m : Nat) (h0 : 0 ≤ a) (ha : a < 18446744073709551616) (hm : m = (2 ^ i - 1) * 2 ^ j) (hm' : m < 18446744073709551616) : bits .and .u64 a (m : Int) = a / 2 ^ j % 2 ^ i * 2 ^ j := by
  obtain ⟨x, rfl⟩ := Int.eq_ofNat_of_zero_le h0
  rw [u64_and_nat x m (by omega) hm', hm, nat_and_mid]
  exact_mod_cast rfl
theorem and16 (i : Nat) (a : Int) (m : Nat) (h0 : 0 ≤ a) (ha : a < 65536) (hm : m = 2 ^ i - 1) (hm' : m < 65536) : bits .and .u16 a (m : Int) = a % 2 ^ i := by
  obtain ⟨x, rfl⟩ := Int.eq_ofNat_of_zero_le h0
  rw [u16_and_nat x m (by omega) hm', hm, nat_and_low]
  exact_mod_cast rfl
theorem and8 (i : Nat) (a : Int) (m : Nat) (h0 : 0 ≤ a) (ha : a < 256) (hm : m = 2 ^ i - 1) (hm' : m < 256) : bits .and .u8 a (m : Int) = a % 2 ^ i := by
  obtain ⟨x, rfl⟩ := Int.eq_ofNat_of_zero_le h0
  rw [u8_and_nat x m (by omega) hm', hm, nat_and_low]
  exact_mod_cast rfl
theorem and8m (i j : Nat) (a : Int) (m : Nat) (h0 : 0 ≤ a) (ha : a < 256) (hm : m = (2 ^ i - 1) * 2 ^ j) (hm' : m < 256) : bits .and .u8 a (m : Int) = a / 2 ^ j % 2 ^ i * 2 ^ j := by
  obtain ⟨x, rfl⟩ := Int.eq_ofNat_of_zero_le h0
  rw [u8_and_nat x m (by omega) hm', hm, nat_and_mid]
  exact_mod_cast rfl
end Go.Proofs.YtdmnflngafbobaaDoor
