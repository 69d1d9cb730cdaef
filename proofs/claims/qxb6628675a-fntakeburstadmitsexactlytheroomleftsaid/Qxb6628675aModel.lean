import Derived.Test.Qxb6628675aW3
import Derived.Test.Qxb6628675aW4
namespace Go.Proofs.Qxb6628675a

/-- The window that a request at n falls in. -/
def inW (e l c p n ll alg : Int) : Fr := if n < e then ⟨e, l, c, p⟩ else if alg = 1 ∧ n < e + ll ∧ n < e + l then ⟨e + ll, ll, 0, c⟩ else ⟨n + ll, ll, 0, 0⟩

/-- One more request fits. -/
def room (f : Fr) (n mx : Int) : Bool := decide (f.C < mx ∧ f.P * (f.E - n) ≤ (mx - f.C - 1) * f.L)

theorem frAt_inW (e l c p x ll alg : Int) : frAt (e - x) l c p ll alg = ⟨(inW e l c p x ll alg).E - x, (inW e l c p x ll alg).L, (inW e l c p x ll alg).C, (inW e l c p x ll alg).P⟩ := by
  unfold frAt inW
  by_cases h : x < e
  · rw [if_pos (by omega), if_pos h]
  · rw [if_neg (by omega), if_neg h]
    by_cases h2 : alg = 1 ∧ x < e + ll ∧ x < e + l
    · rw [if_pos ⟨h2.1, by omega, by omega⟩, if_pos h2]
      simp only [Fr.mk.injEq, and_true]
      omega
    · rw [if_neg (fun h3 => h2 ⟨h3.1, by omega, by omega⟩), if_neg h2]
      simp only [Fr.mk.injEq, and_true]
      omega

/-- What the law takes for granted. -/
structure Pre (e l c p n mx ll : Int) : Prop where
  e0 : -4611686018427387904 < e
  e1 : e < 9223372036854775808
  n0 : -4611686018427387904 < n
  n1 : n < 4611686018427387904
  l0 : 0 ≤ l
  l1 : l < 4611686018427387904
  q0 : 1 ≤ ll
  q1 : ll < 4611686018427387904
  c0 : 0 ≤ c
  c1 : c ≤ 9223372036854775807
  p0 : 0 ≤ p
  p1 : p ≤ 9223372036854775807
  m0 : 1 ≤ mx
  m1 : mx ≤ 9223372036854775807
  hl : n < e → e - n ≤ l

/-- What is known of the window that the request falls in. -/
structure Good (f : Fr) (n : Int) : Prop where
  d0 : 0 < f.E - n
  d1 : f.E - n ≤ f.L
  l1 : f.L < 4611686018427387904
  c0 : 0 ≤ f.C
  c1 : f.C ≤ 9223372036854775807
  p0 : 0 ≤ f.P
  p1 : f.P ≤ 9223372036854775807
  e0 : -4611686018427387904 < f.E
  e1 : f.E < 9223372036854775808

theorem Pre.good {e l c p n mx ll : Int} (h : Pre e l c p n mx ll) (alg : Int) : Good (inW e l c p n ll alg) n := by
  obtain ⟨e0, e1, n0, n1, l0, l1, q0, q1, c0, c1, p0, p1, m0, m1, hl⟩ := h
  unfold inW
  by_cases h : n < e
  · rw [if_pos h]
    have := hl h
    constructor <;> dsimp only <;> omega
  · rw [if_neg h]
    by_cases h2 : alg = 1 ∧ n < e + ll ∧ n < e + l
    · rw [if_pos h2]
      obtain ⟨_, h3, h4⟩ := h2
      constructor <;> dsimp only <;> omega
    · rw [if_neg h2]
      constructor <;> dsimp only <;> omega

theorem ceil_le {X L m : Int} (hL : 0 < L) : X / L + (if X % L = 0 then 0 else 1) ≤ m ↔ X ≤ m * L := by
  have h2 := Int.mul_ediv_add_emod X L
  have h3 := Int.emod_nonneg X (show L ≠ 0 by omega)
  have h4 := Int.emod_lt_of_pos X hL
  constructor
  · intro h
    by_cases hr : X % L = 0
    · rw [if_pos hr] at h
      have : L * (X / L) ≤ L * m := Int.mul_le_mul_of_nonneg_left (by omega) (by omega)
      rw [Int.mul_comm L m] at this
      omega
    · rw [if_neg hr] at h
      have : L * (X / L + 1) ≤ L * m := Int.mul_le_mul_of_nonneg_left h (by omega)
      rw [Int.mul_comm L m, Int.mul_add] at this
      omega
  · intro h
    have h5 : X / L ≤ m := by
      have := Int.ediv_le_ediv hL h
      rwa [Int.mul_ediv_cancel _ (by omega)] at this
    by_cases hr : X % L = 0
    · rw [if_pos hr]; omega
    · rw [if_neg hr]
      rcases Int.lt_or_le (X / L) m with h6 | h6
      · omega
      · have e : X / L = m := by omega
        rw [e, Int.mul_comm] at h2
        omega

theorem room_iff {f : Fr} {n mx : Int} (g : Good f n) : carry f.P (f.E - n) f.L < mx - f.C ↔ room f n mx = true := by
  obtain ⟨d0, d1, l1, c0, c1, p0, p1, _, _⟩ := g
  unfold room
  rw [decide_eq_true_eq]
  by_cases hp : f.P = 0
  · rw [hp, carry_zero, Int.zero_mul]
    constructor
    · intro h
      exact ⟨by omega, Int.mul_nonneg (by omega) (by omega)⟩
    · intro h; omega
  · have hb := carry_bd p0 (show 0 ≤ f.E - n by omega) d1 (by omega)
    have hc : carry f.P (f.E - n) f.L = f.P * (f.E - n) / f.L + (if f.P * (f.E - n) % f.L = 0 then 0 else 1) := by rw [carry, if_neg hp]
    have hi := ceil_le (X := f.P * (f.E - n)) (L := f.L) (m := mx - f.C - 1) (by omega)
    rw [← hc] at hi
    constructor
    · intro h
      exact ⟨by omega, hi.1 (by omega)⟩
    · intro h
      have := hi.2 h.2
      omega

end Go.Proofs.Qxb6628675a
