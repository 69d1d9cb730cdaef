import Derived.Laws.Bits64b
import Derived.Laws.BitsAllLaws
namespace Go.Proofs.Qxb6628675a

theorem two63 : (9223372036854775808 : Nat) = 2 ^ 63 := by decide

theorem and63 (k : Nat) (h : k < 9223372036854775808) : k &&& 9223372036854775808 = 0 := by
  rw [two63] at *
  apply Nat.eq_of_testBit_eq
  intro i
  rw [Nat.testBit_and, Nat.testBit_two_pow, Nat.zero_testBit]
  by_cases e : 63 = i
  · subst e; rw [Nat.testBit_lt_two_pow h]; rfl
  · simp [e]

theorem mono_zero (n : Int) (n0 : 0 ≤ n) (n1 : n < 1000000000) : bits .and .u64 n 9223372036854775808 = 0 := by
  obtain ⟨k, rfl⟩ := Int.eq_ofNat_of_zero_le n0
  have h := bits_and_u64_nat k 9223372036854775808 (by omega) (by omega)
  rw [and63 k (by omega)] at h
  exact h

theorem mask30 (n : Int) (n0 : 0 ≤ n) (n1 : n < 1000000000) : bits .and .u64 n 1073741823 = n := by
  obtain ⟨k, rfl⟩ := Int.eq_ofNat_of_zero_le n0
  have h := bits_and_u64_nat k 1073741823 (by omega) (by omega)
  have e : k &&& 1073741823 = k := by
    rw [show (1073741823 : Nat) = 2 ^ 30 - 1 from by decide, Nat.and_two_pow_sub_one_eq_mod, Nat.mod_eq_of_lt (by omega)]
  rw [e] at h
  exact h

theorem both_zero (n m : Int) (n0 : 0 ≤ n) (n1 : n < 1000000000) (m0 : 0 ≤ m) (m1 : m < 1000000000) : bits .and .u64 (bits .and .u64 n m) 9223372036854775808 = 0 := by
  obtain ⟨k, rfl⟩ := Int.eq_ofNat_of_zero_le n0
  obtain ⟨l, rfl⟩ := Int.eq_ofNat_of_zero_le m0
  rw [bits_and_u64_nat k l (by omega) (by omega)]
  have hk : k &&& l ≤ k := Nat.and_le_left
  have h := bits_and_u64_nat (k &&& l) 9223372036854775808 (by omega) (by omega)
  rw [and63 _ (by omega)] at h
  exact h

theorem clear30 (n : Int) (n0 : 0 ≤ n) (n1 : n < 1000000000) : bits .andNot .u64 n 1073741823 = 0 := by
  obtain ⟨k, rfl⟩ := Int.eq_ofNat_of_zero_le n0
  have h := u64_andNot_nat k 1073741823 (by omega) (by omega)
  have e : k &&& (18446744073709551615 - 1073741823) = 0 := by
    rw [show 18446744073709551615 - 1073741823 = 2 ^ 64 - (1073741823 + 1) from by decide]
    apply Nat.eq_of_testBit_eq
    intro i
    rw [Nat.testBit_and, Nat.testBit_two_pow_sub_succ (by decide), Nat.zero_testBit, show (1073741823 : Nat) = 2 ^ 30 - 1 from by decide, Nat.testBit_two_pow_sub_one]
    by_cases e : i < 30
    · simp [e]
    · rw [Nat.testBit_lt_two_pow (i := i) (x := k) (Nat.lt_of_lt_of_le (show k < 2 ^ 30 by omega) (Nat.pow_le_pow_right (by omega) (by omega)))]
      rfl
  rw [e] at h
  exact h

theorem or_zero (m : Int) (m0 : 0 ≤ m) (m1 : m < 1000000000) : bits .or .u64 0 m = m := by
  obtain ⟨k, rfl⟩ := Int.eq_ofNat_of_zero_le m0
  have h := bits_or_u64_nat 0 k (by omega) (by omega)
  rw [Nat.zero_or] at h
  exact h

end Go.Proofs.Qxb6628675a
