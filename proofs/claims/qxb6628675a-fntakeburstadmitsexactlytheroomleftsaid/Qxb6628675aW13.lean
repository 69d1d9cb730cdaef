import Derived.Test.Qxb6628675aModel
namespace Go.Proofs.Qxb6628675a
open Go.RowKit

theorem wrapN {a : Nat} (ha : a < 18446744073709551616) : IntKind.u64.wrap (a : Int) = (a : Int) := by rw [IntKind.wrap_u64]; omega

set_option maxHeartbeats 400000 in
theorem zmul_core (a b a0 a1 b0 b1 p00 p01 p10 p11 n00 m00 m01 m10 n01 n10 mid nmid lo hi : Int) (w : World)
    (ea0 : bits .and .u64 a 4294967295 = a0) (ea1 : a / 4294967296 = a1) (eb0 : bits .and .u64 b 4294967295 = b0) (eb1 : b / 4294967296 = b1)
    (e00 : IntKind.u64.wrap (a0 * b0) = p00) (e01 : IntKind.u64.wrap (a0 * b1) = p01) (e10 : IntKind.u64.wrap (a1 * b0) = p10) (e11 : IntKind.u64.wrap (a1 * b1) = p11)
    (f00 : p00 / 4294967296 = n00) (g00 : bits .and .u64 p00 4294967295 = m00) (g01 : bits .and .u64 p01 4294967295 = m01) (g10 : bits .and .u64 p10 4294967295 = m10) (f01 : p01 / 4294967296 = n01) (f10 : p10 / 4294967296 = n10)
    (em : IntKind.u64.wrap (IntKind.u64.wrap (n00 + m01) + m10) = mid) (fm : mid / 4294967296 = nmid)
    (el : bits .or .u64 m00 (IntKind.u64.wrap (mid * 4294967296)) = lo) (eh : IntKind.u64.wrap (IntKind.u64.wrap (IntKind.u64.wrap (p11 + n01) + n10) + nmid) = hi) :
    Calls Try.prog 12 #[.int .u64 a, .int .u64 b] w fun e w' => e = .returned (.tuple #[.int .u64 hi, .int .u64 lo]) ∧ w' = w := by
  go_enter Try.func12, Try.ntmps12
  go_wp2
  go_ret2
  exact ⟨rfl, rfl⟩

theorem half_le {a b : Nat} (ha : a < 4294967296) (hb : b < 4294967296) : a * b ≤ 18446744065119617025 := by
  have h1 : a * b ≤ 4294967295 * b := Nat.mul_le_mul_right _ (by omega)
  omega

/-- The school method on two halves. -/
theorem school (a0 a1 b0 b1 : Nat) (h0 : a0 < 4294967296) (h1 : a1 < 4294967296) (h2 : b0 < 4294967296) (h3 : b1 < 4294967296) :
    (a1 * 4294967296 + a0) * (b1 * 4294967296 + b0) = (a1 * b1 + a0 * b1 / 4294967296 + a1 * b0 / 4294967296 + (a0 * b0 / 4294967296 + a0 * b1 % 4294967296 + a1 * b0 % 4294967296) / 4294967296) * 18446744073709551616
      + ((a0 * b0 / 4294967296 + a0 * b1 % 4294967296 + a1 * b0 % 4294967296) % 4294967296 * 4294967296 + a0 * b0 % 4294967296) := by
  have e : (a1 * 4294967296 + a0) * (b1 * 4294967296 + b0) = a1 * b1 * 18446744073709551616 + (a0 * b1 + a1 * b0) * 4294967296 + a0 * b0 := by
    rw [Nat.add_mul, Nat.mul_add, Nat.mul_add, Nat.add_mul]
    have e1 : a1 * 4294967296 * (b1 * 4294967296) = a1 * b1 * 18446744073709551616 := by
      rw [Nat.mul_assoc, ← Nat.mul_assoc 4294967296 b1, Nat.mul_comm 4294967296 b1, Nat.mul_assoc b1, ← Nat.mul_assoc]
    have e2 : a1 * 4294967296 * b0 = a1 * b0 * 4294967296 := by rw [Nat.mul_assoc, Nat.mul_comm 4294967296 b0, ← Nat.mul_assoc]
    have e3 : a0 * (b1 * 4294967296) = a0 * b1 * 4294967296 := by rw [← Nat.mul_assoc]
    rw [e1, e2, e3]
    omega
  rw [e]
  have q0 := half_le h0 h2
  have q1 := half_le h0 h3
  have q2 := half_le h1 h2
  have q3 := half_le h1 h3
  generalize a0 * b0 = p at *
  generalize a0 * b1 = q at *
  generalize a1 * b0 = r at *
  generalize a1 * b1 = s at *
  omega

theorem halves (a : Nat) : a / 4294967296 * 4294967296 + a % 4294967296 = a := Nat.div_add_mod' _ _

theorem low_or (p mid : Nat) : bits .or .u64 ((p % 4294967296 : Nat) : Int) (IntKind.u64.wrap ((mid : Int) * 4294967296)) = ((mid % 4294967296 * 4294967296 + p % 4294967296 : Nat) : Int) := by
  have e1 : IntKind.u64.wrap ((mid : Int) * 4294967296) = ((mid % 4294967296 * 4294967296 : Nat) : Int) := by rw [wrapU]; omega
  have x1 : p % 4294967296 < 18446744073709551616 := by omega
  have x2 : mid % 4294967296 * 4294967296 < 18446744073709551616 := by omega
  have x3 : p % 4294967296 < 2 ^ 32 := Nat.mod_lt _ (by decide)
  rw [e1, bits_or_u64_nat _ _ x1 x2, Nat.or_comm]
  have := or_add (mid % 4294967296) (p % 4294967296) 32 x3
  rw [show (2 : Nat) ^ 32 = 4294967296 from by decide] at this
  rw [this]

theorem zmul_any (a b : Nat) (w : World) (ha : a < 18446744073709551616) (hb : b < 18446744073709551616) :
    Calls Try.prog 12 #[.int .u64 a, .int .u64 b] w fun e w' => e = .returned (.tuple #[.int .u64 ((a * b / 18446744073709551616 : Nat) : Int), .int .u64 ((a * b % 18446744073709551616 : Nat) : Int)]) ∧ w' = w := by
  obtain ⟨a0, ha0⟩ : ∃ x, x = a % 4294967296 := ⟨_, rfl⟩
  obtain ⟨a1, ha1⟩ : ∃ x, x = a / 4294967296 := ⟨_, rfl⟩
  obtain ⟨b0, hb0⟩ : ∃ x, x = b % 4294967296 := ⟨_, rfl⟩
  obtain ⟨b1, hb1⟩ : ∃ x, x = b / 4294967296 := ⟨_, rfl⟩
  have la0 : a0 < 4294967296 := by omega
  have la1 : a1 < 4294967296 := by omega
  have lb0 : b0 < 4294967296 := by omega
  have lb1 : b1 < 4294967296 := by omega
  have q0 := half_le la0 lb0
  have q1 := half_le la0 lb1
  have q2 := half_le la1 lb0
  have q3 := half_le la1 lb1
  have key := school a0 a1 b0 b1 la0 la1 lb0 lb1
  rw [ha0, ha1, hb0, hb1, halves, halves, ← ha0, ← ha1, ← hb0, ← hb1] at key
  have m0 := mask32 a ha
  have m1 := mask32 b hb
  rw [← ha0] at m0
  rw [← hb0] at m1
  obtain ⟨p, hp⟩ : ∃ x, x = a0 * b0 := ⟨_, rfl⟩
  obtain ⟨q, hq⟩ : ∃ x, x = a0 * b1 := ⟨_, rfl⟩
  obtain ⟨r, hr⟩ : ∃ x, x = a1 * b0 := ⟨_, rfl⟩
  obtain ⟨s, hs⟩ : ∃ x, x = a1 * b1 := ⟨_, rfl⟩
  rw [← hp, ← hq, ← hr, ← hs] at key
  rw [← hp] at q0
  rw [← hq] at q1
  rw [← hr] at q2
  rw [← hs] at q3
  obtain ⟨mid, hmid⟩ : ∃ x, x = p / 4294967296 + q % 4294967296 + r % 4294967296 := ⟨_, rfl⟩
  rw [← hmid] at key
  have hml : mid < 18446744073709551616 := by omega
  have hlo : mid % 4294967296 * 4294967296 + p % 4294967296 < 18446744073709551616 := by omega
  have hab : a * b < 18446744073709551616 * 18446744073709551616 := Nat.mul_lt_mul'' ha hb
  have hhi : a * b / 18446744073709551616 = s + q / 4294967296 + r / 4294967296 + mid / 4294967296 := by rw [key]; omega
  have hlw : a * b % 18446744073709551616 = mid % 4294967296 * 4294967296 + p % 4294967296 := by rw [key]; omega
  have hhl : s + q / 4294967296 + r / 4294967296 + mid / 4294967296 < 18446744073709551616 := by omega
  rw [hhi, hlw]
  refine zmul_core (a : Int) (b : Int) (a0 : Int) (a1 : Int) (b0 : Int) (b1 : Int) (p : Int) (q : Int) (r : Int) (s : Int) ((p / 4294967296 : Nat) : Int) ((p % 4294967296 : Nat) : Int) ((q % 4294967296 : Nat) : Int) ((r % 4294967296 : Nat) : Int) ((q / 4294967296 : Nat) : Int) ((r / 4294967296 : Nat) : Int) (mid : Int) ((mid / 4294967296 : Nat) : Int) _ _ w
    m0 (by omega) m1 (by omega) (by rw [mul_cast, ← hp]; exact wrapN (by omega)) (by rw [mul_cast, ← hq]; exact wrapN (by omega)) (by rw [mul_cast, ← hr]; exact wrapN (by omega)) (by rw [mul_cast, ← hs]; exact wrapN (by omega))
    (by omega) (mask32 p (by omega)) (mask32 q (by omega)) (mask32 r (by omega)) (by omega) (by omega) ?_ (by omega) ?_ ?_
  · rw [wrapU, wrapU]; omega
  · exact low_or p mid
  · rw [wrapU, wrapU, wrapU]; omega

set_option maxHeartbeats 1000000 in
theorem zin_any (e l c p n ll alg : Int) (f : Fr) (w : World) (hf : inW e l c p n ll alg = f) (e0 : -4611686018427387904 < e) (e1 : e < 4611686018427387904) (n0 : -4611686018427387904 < n) (n1 : n < 4611686018427387904) (l0 : 0 ≤ l) (l1 : l < 4611686018427387904) (q0 : 1 ≤ ll) (q1 : ll < 4611686018427387904) :
    Calls Try.prog 5 #[.int .i64 e, .int .i64 l, .int .i64 c, .int .i64 p, .int .i64 n, .int .i64 ll, .int .i64 alg] w fun r w' => r = .returned (.tuple #[.int .i64 f.E, .int .i64 f.L, .int .i64 f.C, .int .i64 f.P]) ∧ w' = w := by
  subst hf
  by_cases h : n < e
  · have hi : inW e l c p n ll alg = ⟨e, l, c, p⟩ := by rw [inW, if_pos h]
    rw [hi]
    clear hi
    go_enter Try.func5, Try.ntmps5
    go_wp2
    exact bodyPost_ret (v := .tuple #[.int .i64 e, .int .i64 l, .int .i64 c, .int .i64 p]) (by simp [results, Try.results5, go_sem]) rfl ⟨rfl, rfl⟩
  · by_cases ha : alg = 1
    · subst ha
      by_cases h2 : n < e + ll
      · by_cases h3 : n < e + l
        · have hi : inW e l c p n ll 1 = ⟨e + ll, ll, 0, c⟩ := by rw [inW, if_neg h, if_pos ⟨rfl, h2, h3⟩]
          rw [hi]
          clear hi
          go_enter Try.func5, Try.ntmps5
          go_wp2
          exact bodyPost_ret (v := .tuple #[.int .i64 (e + ll), .int .i64 ll, .int .i64 0, .int .i64 c]) (by simp [results, Try.results5, go_sem]) rfl ⟨rfl, rfl⟩
        · have hi : inW e l c p n ll 1 = ⟨n + ll, ll, 0, 0⟩ := by rw [inW, if_neg h, if_neg (fun x => h3 x.2.2)]
          rw [hi]
          clear hi
          go_enter Try.func5, Try.ntmps5
          go_wp2
          exact bodyPost_ret (v := .tuple #[.int .i64 (n + ll), .int .i64 ll, .int .i64 0, .int .i64 0]) (by simp [results, Try.results5, go_sem]) rfl ⟨rfl, rfl⟩
      · have hi : inW e l c p n ll 1 = ⟨n + ll, ll, 0, 0⟩ := by rw [inW, if_neg h, if_neg (fun x => h2 x.2.1)]
        rw [hi]
        clear hi
        go_enter Try.func5, Try.ntmps5
        go_wp2
        exact bodyPost_ret (v := .tuple #[.int .i64 (n + ll), .int .i64 ll, .int .i64 0, .int .i64 0]) (by simp [results, Try.results5, go_sem]) rfl ⟨rfl, rfl⟩
    · have hi : inW e l c p n ll alg = ⟨n + ll, ll, 0, 0⟩ := by rw [inW, if_neg h, if_neg (fun x => ha x.1)]
      have hab : (alg == 1) = false := by simpa using ha
      rw [hi]
      clear hi ha
      go_enter Try.func5, Try.ntmps5
      go_wp2
      exact bodyPost_ret (v := .tuple #[.int .i64 (n + ll), .int .i64 ll, .int .i64 0, .int .i64 0]) (by simp [results, Try.results5, go_sem]) rfl ⟨rfl, rfl⟩
end Go.Proofs.Qxb6628675a
