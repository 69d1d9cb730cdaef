import Derived.Lib.Mul64
namespace Go.Proofs.Qxb6628675a

/-! ### Knuth's division, one digit: no Go in sight. The base is 4294967296. -/

/-- The digit that is looked for. -/
def dig (u v y : Nat) : Nat := (u * 4294967296 + v) / y

structure Est (u v y1 y0 q r : Nat) : Prop where
  sum : q * y1 + r = u
  r : r < 4294967296
  hi : q ≤ 4294967297
  ge : dig u v (y1 * 4294967296 + y0) ≤ q

theorem cmp_iff {u v y1 y0 q r : Nat} (h : q * y1 + r = u) : q * (y1 * 4294967296 + y0) ≤ u * 4294967296 + v ↔ q * y0 ≤ 4294967296 * r + v := by
  subst h
  rw [Nat.mul_add, Nat.add_mul, ← Nat.mul_assoc]
  omega

theorem dig_le_iff {u v y q : Nat} (hy : 0 < y) : q ≤ dig u v y ↔ q * y ≤ u * 4294967296 + v := Nat.le_div_iff_mul_le hy

theorem dig_lt {u v y : Nat} (hy : 0 < y) (hu : u < y) (hv : v < 4294967296) : dig u v y < 4294967296 := by
  unfold dig
  rw [Nat.div_lt_iff_lt_mul hy]
  have h : (u + 1) * 4294967296 ≤ y * 4294967296 := Nat.mul_le_mul_right _ hu
  rw [Nat.mul_comm 4294967296 y]
  omega

theorem est_start {u v y1 y0 : Nat} (h1 : 2147483648 ≤ y1) (h2 : y1 < 4294967296) (h3 : y0 < 4294967296) (hu : u < y1 * 4294967296 + y0) (hv : v < 4294967296) : Est u v y1 y0 (u / y1) (u - u / y1 * y1) := by
  have hm := Nat.div_add_mod u y1
  have hl := Nat.mod_lt u (show 0 < y1 by omega)
  rw [Nat.mul_comm] at hm
  have e : u - u / y1 * y1 = u % y1 := by omega
  rw [e]
  refine ⟨hm, by omega, ?_, ?_⟩
  · have : u / y1 < 4294967298 := by
      rw [Nat.div_lt_iff_lt_mul (by omega)]
      omega
    omega
  · -- the estimate is not too small
    have hy : 0 < y1 * 4294967296 + y0 := by omega
    have : dig u v (y1 * 4294967296 + y0) < u / y1 + 1 := by
      unfold dig
      rw [Nat.div_lt_iff_lt_mul hy]
      have h5 : u + 1 ≤ (u / y1 + 1) * y1 := by rw [Nat.add_mul]; omega
      have h6 := Nat.mul_le_mul_right 4294967296 h5
      rw [Nat.mul_add (u / y1 + 1), ← Nat.mul_assoc]
      omega
    omega

/-- The test says no: the digit is found. -/
theorem est_stop {u v y1 y0 q r : Nat} (h : Est u v y1 y0 q r) (hy : 0 < y1) (hc : q * y0 ≤ 4294967296 * r + v) : q = dig u v (y1 * 4294967296 + y0) := by
  have h1 := (dig_le_iff (u := u) (v := v) (y := y1 * 4294967296 + y0) (q := q) (by omega)).2 ((cmp_iff h.sum).2 hc)
  have := h.ge
  omega

/-- The test says yes: the estimate was too great. -/
theorem est_more {u v y1 y0 q r : Nat} (h : Est u v y1 y0 q r) (_hy : 0 < y1) (hu : u < y1 * 4294967296 + y0) (hv : v < 4294967296) (hc : 4294967296 ≤ q ∨ 4294967296 * r + v < q * y0) :
    1 ≤ q ∧ dig u v (y1 * 4294967296 + y0) ≤ q - 1 ∧ (q - 1) * y1 + (r + y1) = u ∧ q - 1 ≤ 4294967296 := by
  have hp : 0 < y1 * 4294967296 + y0 := by omega
  have hlt := dig_lt hp hu hv
  have hg : dig u v (y1 * 4294967296 + y0) < q := by
    rcases hc with hc | hc
    · omega
    · have := mt (cmp_iff (v := v) (y0 := y0) h.sum).1 (by omega)
      have := mt (dig_le_iff (u := u) (v := v) (q := q) hp).1 this
      omega
  refine ⟨by omega, by omega, ?_, by have := h.hi; omega⟩
  have hs := h.sum
  obtain ⟨k, rfl⟩ : ∃ k, q = k + 1 := ⟨q - 1, by omega⟩
  rw [Nat.add_mul] at hs
  simp
  omega

theorem est_next {u v y1 y0 q r : Nat} (h : Est u v y1 y0 q r) (hy : 0 < y1) (hu : u < y1 * 4294967296 + y0) (hv : v < 4294967296) (hc : 4294967296 ≤ q ∨ 4294967296 * r + v < q * y0) (hr : r + y1 < 4294967296) :
    Est u v y1 y0 (q - 1) (r + y1) := by
  obtain ⟨a, b, c, d⟩ := est_more h hy hu hv hc
  exact ⟨c, hr, by omega, b⟩

theorem est_break {u v y1 y0 q r : Nat} (h : Est u v y1 y0 q r) (hy : 0 < y1) (h0 : y0 < 4294967296) (hu : u < y1 * 4294967296 + y0) (hv : v < 4294967296) (hc : 4294967296 ≤ q ∨ 4294967296 * r + v < q * y0) (hr : 4294967296 ≤ r + y1) :
    q - 1 = dig u v (y1 * 4294967296 + y0) := by
  obtain ⟨a, b, c, d⟩ := est_more h hy hu hv hc
  have h1 : (q - 1) * y0 ≤ 4294967296 * y0 := Nat.mul_le_mul_right _ d
  have h2 : 4294967296 * 4294967296 ≤ 4294967296 * (r + y1) := Nat.mul_le_mul_left _ hr
  have hp : 0 < y1 * 4294967296 + y0 := by omega
  have := (dig_le_iff (u := u) (v := v) (q := q - 1) hp).2 ((cmp_iff c).2 (by omega))
  omega

/-- What is left behind the digit. -/
def rest (u v y : Nat) : Nat := (u * 4294967296 + v) % y

theorem rest_eq (u v y : Nat) : dig u v y * y + rest u v y = u * 4294967296 + v := by
  unfold dig rest
  have := Nat.div_add_mod (u * 4294967296 + v) y
  rw [Nat.mul_comm] at this
  exact this

/-- Two digits are the quotient. -/
theorem two_digits (u v1 v0 y : Nat) (hy : 0 < y) : (u * 18446744073709551616 + (v1 * 4294967296 + v0)) / y = dig u v1 y * 4294967296 + dig (rest u v1 y) v0 y ∧ (u * 18446744073709551616 + (v1 * 4294967296 + v0)) % y = rest (rest u v1 y) v0 y := by
  have h1 := rest_eq u v1 y
  have h2 := rest_eq (rest u v1 y) v0 y
  have h3 : rest (rest u v1 y) v0 y < y := Nat.mod_lt _ hy
  have key : u * 18446744073709551616 + (v1 * 4294967296 + v0) = (dig u v1 y * 4294967296 + dig (rest u v1 y) v0 y) * y + rest (rest u v1 y) v0 y := by
    rw [Nat.add_mul]
    have h4 : dig u v1 y * 4294967296 * y = dig u v1 y * y * 4294967296 := by rw [Nat.mul_assoc, Nat.mul_comm 4294967296 y, ← Nat.mul_assoc]
    rw [h4]
    generalize dig u v1 y * y = a at *
    generalize dig (rest u v1 y) v0 y * y = b at *
    omega
  rw [key]
  constructor
  · rw [Nat.mul_comm, Nat.mul_add_div hy, Nat.div_eq_of_lt h3, Nat.add_zero]
  · rw [Nat.mul_comm, Nat.mul_add_mod, Nat.mod_eq_of_lt h3]

end Go.Proofs.Qxb6628675a
