import Derived.Test.Qxb6628675aDivI
namespace Go.Proofs.Qxb6628675a

theorem bitLen_spec (y : Nat) (h0 : 0 < y) (h : y < 2 ^ 64) : 1 ≤ Lib.bitLen y ∧ 2 ^ (Lib.bitLen y - 1) ≤ y ∧ y < 2 ^ Lib.bitLen y := by
  induction y using Nat.strongRecOn with
  | _ y ih =>
    have hh := Lib.bitLen_half y (by omega) h
    by_cases h1 : y / 2 = 0
    · have e : y = 1 := by omega
      subst e
      decide
    · obtain ⟨a, b, c⟩ := ih (y / 2) (by omega) (by omega) (by omega)
      rw [hh]
      generalize Lib.bitLen (y / 2) = k at *
      obtain ⟨j, rfl⟩ : ∃ j, k = j + 1 := ⟨k - 1, by omega⟩
      refine ⟨by omega, ?_, ?_⟩
      · rw [show 1 + (j + 1) - 1 = j + 1 from by omega, Nat.pow_succ]
        rw [show j + 1 - 1 = j from by omega] at b
        omega
      · rw [show 1 + (j + 1) = (j + 1) + 1 from by omega, Nat.pow_succ]
        omega

theorem or_add (a b k : Nat) (hb : b < 2 ^ k) : a * 2 ^ k ||| b = a * 2 ^ k + b := by
  rw [Nat.mul_comm, Nat.two_pow_add_eq_or_of_lt hb]

theorem pow_cast (k : Nat) : (2 : Int) ^ k = ((2 ^ k : Nat) : Int) := by simp

/-- What the normalised numbers are. -/
structure NormN (hi lo y K Y u t : Nat) : Prop where
  eY : Y = y * K
  y63 : 9223372036854775808 ≤ Y
  y64 : Y < 18446744073709551616
  lt : u < Y
  t64 : t < 18446744073709551616
  all : (hi * 18446744073709551616 + lo) * K = u * 18446744073709551616 + t

theorem norm_all {hi lo y bl : Nat} (hlo : lo < 18446744073709551616) (hh : hi < y) (h1 : 1 ≤ bl) (h2 : bl ≤ 64) (b1 : 2 ^ (bl - 1) ≤ y) (b2 : y < 2 ^ bl) :
    NormN hi lo y (2 ^ (64 - bl)) (y * 2 ^ (64 - bl)) (hi * 2 ^ (64 - bl) + lo / 2 ^ bl) (lo * 2 ^ (64 - bl) % 18446744073709551616) ∧ lo / 2 ^ bl < 2 ^ (64 - bl) := by
  have hKM : 2 ^ (64 - bl) * 2 ^ bl = 18446744073709551616 := by rw [← Nat.pow_add, show 64 - bl + bl = 64 from by omega]
  have hKL : 2 ^ (bl - 1) * 2 ^ (64 - bl) = 9223372036854775808 := by rw [← Nat.pow_add, show bl - 1 + (64 - bl) = 63 from by omega]
  have hK : 0 < 2 ^ (64 - bl) := Nat.two_pow_pos _
  have hM : 0 < 2 ^ bl := Nat.two_pow_pos _
  have hq : lo / 2 ^ bl < 2 ^ (64 - bl) := by rw [Nat.div_lt_iff_lt_mul hM, hKM]; exact hlo
  generalize 2 ^ (64 - bl) = K at *
  generalize 2 ^ bl = M at *
  generalize 2 ^ (bl - 1) = L at *
  have a1 : y * K < 18446744073709551616 := by
    have := Nat.mul_lt_mul_of_lt_of_le b2 (Nat.le_refl K) hK
    rw [Nat.mul_comm M K, hKM] at this
    exact this
  have a2 : 9223372036854775808 ≤ y * K := by rw [← hKL]; exact Nat.mul_le_mul_right K b1
  have a3 : hi * K + K ≤ y * K := by
    have := Nat.mul_le_mul_right K (show hi + 1 ≤ y from hh)
    rw [Nat.add_mul] at this
    omega
  refine ⟨⟨rfl, a2, a1, by omega, Nat.mod_lt _ (by omega), ?_⟩, hq⟩
  -- lo * K = (lo / M) * 2^64 + the rest
  have a4 : lo * K / 18446744073709551616 = lo / M := by
    rw [← hKM, Nat.mul_comm lo K, Nat.mul_div_mul_left _ _ hK]
  have a5 := Nat.div_add_mod (lo * K) 18446744073709551616
  rw [a4] at a5
  rw [Nat.add_mul, Nat.add_mul]
  have a6 : hi * 18446744073709551616 * K = hi * K * 18446744073709551616 := by rw [Nat.mul_assoc, Nat.mul_comm 18446744073709551616 K, ← Nat.mul_assoc]
  rw [a6]
  omega

/-- From the normalised division back. -/
theorem norm_back {N y k Y Q R : Nat} (e : Y = y * 2 ^ k) (h1 : N * 2 ^ k / Y = Q) (h2 : N * 2 ^ k % Y = R) : Q = N / y ∧ R / 2 ^ k = N % y := by
  have hK : 0 < 2 ^ k := Nat.two_pow_pos _
  generalize 2 ^ k = K at *
  subst e
  constructor
  · rw [← h1, Nat.mul_div_mul_right _ _ hK]
  · rw [← h2, Nat.mul_mod_mul_right, Nat.mul_div_cancel _ hK]

end Go.Proofs.Qxb6628675a
