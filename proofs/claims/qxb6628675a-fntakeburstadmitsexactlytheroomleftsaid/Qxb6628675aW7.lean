import Derived.Test.Qxb6628675aW6
namespace Go.Proofs.Qxb6628675a
open Go.RowKit

/-- Go's '/' and '%' by a billion. -/
theorem tparts (d : Int) : 1000000000 * d.tdiv 1000000000 + d.tmod 1000000000 = d ∧ -1000000000 < d.tmod 1000000000 ∧ d.tmod 1000000000 < 1000000000 ∧ (0 ≤ d → 0 ≤ d.tmod 1000000000) ∧ (d ≤ 0 → d.tmod 1000000000 ≤ 0) := by
  have h := Int.mul_tdiv_add_tmod d 1000000000
  rcases Int.le_total 0 d with h0 | h0
  · have e := Int.tmod_eq_emod_of_nonneg (b := 1000000000) h0
    refine ⟨h, by omega, by omega, fun _ => by omega, fun _ => ?_⟩
    have : d = 0 := by omega
    subst this
    decide
  · have e : (-d).tmod 1000000000 = (-d) % 1000000000 := Int.tmod_eq_emod_of_nonneg (by omega)
    rw [Int.neg_tmod] at e
    refine ⟨h, by omega, by omega, fun _ => ?_, fun _ => by omega⟩
    have : d = 0 := by omega
    subst this
    decide

abbrev tv (s n : Int) : Value := .agg #[.int .u64 n, .int .i64 s, .pointer none]

set_option maxHeartbeats 400000 in
theorem add_mid (s n d m : Int) (w : World) (n0 : 0 ≤ n) (n1 : n < 1000000000) (s0 : -20000000000 ≤ s) (s1 : s ≤ 20000000000) (d0 : -9223372036854775808 ≤ d) (d1 : d ≤ 9223372036854775807)
    (h0 : 0 ≤ n + d.tmod 1000000000) (h1 : n + d.tmod 1000000000 < 1000000000) (hm : n + d.tmod 1000000000 = m) (m0 : 0 ≤ m) (m1 : m < 1000000000) :
    Calls Try.prog 10 #[tv s n, .int .i64 d] w fun e w' => e = .returned (tv (s + d.tdiv 1000000000) m) ∧ Below w.heap.size w w' := by
  have tp := (tparts d).1
  have tl := (tparts d).2.1
  have tu := (tparts d).2.2.1
  have tq0 : -10000000000 ≤ d.tdiv 1000000000 := by omega
  have tq1 : d.tdiv 1000000000 ≤ 10000000000 := by omega
  have TP : Hid (1000000000 * d.tdiv 1000000000 + d.tmod 1000000000 = d) := tp
  clear tp
  have hcl := clear30 n n0 n1
  have hor := or_zero m m0 m1
  have hmo : (bits .and .u64 m 9223372036854775808 != 0) = false := by rw [mono_zero m m0 m1]; rfl
  go_enter Try.func10, Try.ntmps10
  go_wp2_with fail
  refine (nsec_any w.heap.size n _ n0 n1 ?_).mono ?_
  · simp
  rintro e w1 ⟨rfl, rfl⟩
  go_wp2_with fail
  refine (addSec_any w.heap.size m s _ _ m0 m1 (by omega) (by omega) (by omega) (by omega) ?_ ?_ ?_).mono ?_
  · simp
  · simp
  · simp
  rintro e w2 ⟨rfl, rfl⟩
  go_wp2
  exact bodyPost_ret (v := tv (s + d.tdiv 1000000000) m) (by simp [results, Try.results10, go_sem]) rfl ⟨rfl, ((Below.refl _ _).alloc (Nat.le_refl _) _).alloc (by simp) _⟩

set_option maxHeartbeats 400000 in
theorem add_over (s n d m : Int) (w : World) (n0 : 0 ≤ n) (n1 : n < 1000000000) (s0 : -20000000000 ≤ s) (s1 : s ≤ 20000000000) (d0 : -9223372036854775808 ≤ d) (d1 : d ≤ 9223372036854775807)
    (h1 : 1000000000 ≤ n + d.tmod 1000000000) (hm : n + d.tmod 1000000000 - 1000000000 = m) (m0 : 0 ≤ m) (m1 : m < 1000000000) :
    Calls Try.prog 10 #[tv s n, .int .i64 d] w fun e w' => e = .returned (tv (s + (d.tdiv 1000000000 + 1)) m) ∧ Below w.heap.size w w' := by
  have tp := (tparts d).1
  have tl := (tparts d).2.1
  have tu := (tparts d).2.2.1
  have tq0 : -10000000000 ≤ d.tdiv 1000000000 := by omega
  have tq1 : d.tdiv 1000000000 ≤ 10000000000 := by omega
  have TP : Hid (1000000000 * d.tdiv 1000000000 + d.tmod 1000000000 = d) := tp
  clear tp
  have hcl := clear30 n n0 n1
  have hor := or_zero m m0 m1
  have hmo : (bits .and .u64 m 9223372036854775808 != 0) = false := by rw [mono_zero m m0 m1]; rfl
  go_enter Try.func10, Try.ntmps10
  go_wp2_with fail
  refine (nsec_any w.heap.size n _ n0 n1 ?_).mono ?_
  · simp
  rintro e w1 ⟨rfl, rfl⟩
  go_wp2_with fail
  refine (addSec_any w.heap.size m s _ _ m0 m1 (by omega) (by omega) (by omega) (by omega) ?_ ?_ ?_).mono ?_
  · simp
  · simp
  · simp
  rintro e w2 ⟨rfl, rfl⟩
  go_wp2
  exact bodyPost_ret (v := tv (s + (d.tdiv 1000000000 + 1)) m) (by simp [results, Try.results10, go_sem]) rfl ⟨rfl, ((Below.refl _ _).alloc (Nat.le_refl _) _).alloc (by simp) _⟩

set_option maxHeartbeats 400000 in
theorem add_under (s n d m : Int) (w : World) (n0 : 0 ≤ n) (n1 : n < 1000000000) (s0 : -20000000000 ≤ s) (s1 : s ≤ 20000000000) (d0 : -9223372036854775808 ≤ d) (d1 : d ≤ 9223372036854775807)
    (h1 : n + d.tmod 1000000000 < 0) (hm : n + d.tmod 1000000000 + 1000000000 = m) (m0 : 0 ≤ m) (m1 : m < 1000000000) :
    Calls Try.prog 10 #[tv s n, .int .i64 d] w fun e w' => e = .returned (tv (s + (d.tdiv 1000000000 - 1)) m) ∧ Below w.heap.size w w' := by
  have tp := (tparts d).1
  have tl := (tparts d).2.1
  have tu := (tparts d).2.2.1
  have tq0 : -10000000000 ≤ d.tdiv 1000000000 := by omega
  have tq1 : d.tdiv 1000000000 ≤ 10000000000 := by omega
  have TP : Hid (1000000000 * d.tdiv 1000000000 + d.tmod 1000000000 = d) := tp
  clear tp
  have hcl := clear30 n n0 n1
  have hor := or_zero m m0 m1
  have hmo : (bits .and .u64 m 9223372036854775808 != 0) = false := by rw [mono_zero m m0 m1]; rfl
  go_enter Try.func10, Try.ntmps10
  go_wp2_with fail
  refine (nsec_any w.heap.size n _ n0 n1 ?_).mono ?_
  · simp
  rintro e w1 ⟨rfl, rfl⟩
  go_wp2_with fail
  refine (addSec_any w.heap.size m s _ _ m0 m1 (by omega) (by omega) (by omega) (by omega) ?_ ?_ ?_).mono ?_
  · simp
  · simp
  · simp
  rintro e w2 ⟨rfl, rfl⟩
  go_wp2
  exact bodyPost_ret (v := tv (s + (d.tdiv 1000000000 - 1)) m) (by simp [results, Try.results10, go_sem]) rfl ⟨rfl, ((Below.refl _ _).alloc (Nat.le_refl _) _).alloc (by simp) _⟩

/-- The moment x nanoseconds from the zero time. -/
abbrev T (x : Int) : Value := tv (x / 1000000000) (x % 1000000000)

/-- (time.Time).Add, without saturation. -/
theorem add_any (x d : Int) (w : World) (x0 : -18446744073709551616 ≤ x) (x1 : x ≤ 18446744073709551616) (d0 : -9223372036854775808 ≤ d) (d1 : d ≤ 9223372036854775807) :
    Calls Try.prog 10 #[T x, .int .i64 d] w fun e w' => e = .returned (T (x + d)) ∧ Below w.heap.size w w' := by
  obtain ⟨tp, tl, tu, _, _⟩ := tparts d
  by_cases h1 : 1000000000 ≤ x % 1000000000 + d.tmod 1000000000
  · have := add_over (x / 1000000000) (x % 1000000000) d (x % 1000000000 + d.tmod 1000000000 - 1000000000) w (by omega) (by omega) (by omega) (by omega) d0 d1 h1 rfl (by omega) (by omega)
    rwa [show x / 1000000000 + (d.tdiv 1000000000 + 1) = (x + d) / 1000000000 from by omega, show x % 1000000000 + d.tmod 1000000000 - 1000000000 = (x + d) % 1000000000 from by omega] at this
  · by_cases h2 : x % 1000000000 + d.tmod 1000000000 < 0
    · have := add_under (x / 1000000000) (x % 1000000000) d (x % 1000000000 + d.tmod 1000000000 + 1000000000) w (by omega) (by omega) (by omega) (by omega) d0 d1 h2 rfl (by omega) (by omega)
      rwa [show x / 1000000000 + (d.tdiv 1000000000 - 1) = (x + d) / 1000000000 from by omega, show x % 1000000000 + d.tmod 1000000000 + 1000000000 = (x + d) % 1000000000 from by omega] at this
    · have := add_mid (x / 1000000000) (x % 1000000000) d (x % 1000000000 + d.tmod 1000000000) w (by omega) (by omega) (by omega) (by omega) d0 d1 (by omega) (by omega) rfl (by omega) (by omega)
      rwa [show x / 1000000000 + d.tdiv 1000000000 = (x + d) / 1000000000 from by omega, show x % 1000000000 + d.tmod 1000000000 = (x + d) % 1000000000 from by omega] at this

end Go.Proofs.Qxb6628675a
