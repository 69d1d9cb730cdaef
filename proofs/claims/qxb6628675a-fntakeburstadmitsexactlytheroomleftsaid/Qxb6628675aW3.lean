import Derived.Test.Qxb6628675aW2
namespace Go.Proofs.Qxb6628675a
open Go.RowKit

set_option maxHeartbeats 400000 in
theorem muldiv_any (a b c : Nat) (w : World) (ha : a ≤ 9223372036854775807) (hb : b ≤ 9223372036854775807) (hc : c ≤ 9223372036854775807) (h0 : a * b / 18446744073709551616 < c) (hq : a * b / c ≤ 9223372036854775807) :
    Calls Try.prog 28 #[.int .i64 a, .int .i64 b, .int .i64 c] w fun e w' => e = .returned (.tuple #[.int .i64 ((a * b / c : Nat) : Int), .int .i64 ((a * b % c : Nat) : Int)]) ∧ ∃ n, w' = w.drewN n := by
  have hr : a * b % c ≤ 9223372036854775807 := by have := Nat.mod_lt (a * b) (show 0 < c by omega); omega
  have hdm : a * b / 18446744073709551616 * 18446744073709551616 + a * b % 18446744073709551616 = a * b := Nat.div_add_mod' _ _
  have hl : a * b % 18446744073709551616 < 18446744073709551616 := Nat.mod_lt _ (by decide)
  have hm := Try.bits_Mul64 a b (by omega) (by omega) w
  have hdv := fun w => div64_any (a * b / 18446744073709551616) (a * b % 18446744073709551616) c w hl (by omega) h0
  rw [hdm] at hdv
  generalize a * b / 18446744073709551616 = hi at *
  generalize a * b % 18446744073709551616 = lo at *
  obtain ⟨q, hqd⟩ : ∃ q, q = a * b / c := ⟨_, rfl⟩
  obtain ⟨r, hrd⟩ : ∃ r, r = a * b % c := ⟨_, rfl⟩
  rw [← hqd] at hdv hq ⊢
  rw [← hrd] at hdv hr ⊢
  have HM : Hid (Calls Try.prog 29 #[.int .u64 a, .int .u64 b] w fun e w' => e = .returned (.tuple #[.int .u64 (hi : Int), .int .u64 (lo : Int)]) ∧ w' = w) := hm
  have HV : Hid (∀ w, Calls Try.prog 30 #[.int .u64 hi, .int .u64 lo, .int .u64 c] w fun e w' => e = .returned (.tuple #[.int .u64 (q : Int), .int .u64 (r : Int)]) ∧ ∃ n, w' = w.drewN n) := hdv
  clear hm hdv hqd hrd hdm hl h0
  go_enter Try.func28, Try.ntmps28
  go_wp2_with fail
  refine HM.out.mono ?_
  rintro e w1 ⟨rfl, rfl⟩
  go_wp2_with fail
  refine (HV.out _).mono ?_
  rintro e w2 ⟨rfl, n, rfl⟩
  go_wp2_with fail
  go_ret2
  exact ⟨rfl, n, rfl⟩

set_option maxHeartbeats 400000 in
theorem later_any (t d : Int) (w : World) (h0 : -9223372036854775808 ≤ t) (hd : 0 ≤ d) (h1 : t + d ≤ 9223372036854775807) :
    Calls Try.prog 26 #[.int .i64 t, .int .i64 d] w fun e w' => e = .returned (.int .i64 (t + d)) ∧ w' = w := by
  go_enter Try.func26, Try.ntmps26
  go_wp2
  go_ret
  exact ⟨rfl, rfl⟩

theorem muldivI_any (a b c : Int) (w : World) (a0 : 0 ≤ a) (a1 : a ≤ 9223372036854775807) (b0 : 0 ≤ b) (bc : b ≤ c) (c0 : 0 < c) (c1 : c ≤ 9223372036854775807) :
    Calls Try.prog 28 #[.int .i64 a, .int .i64 b, .int .i64 c] w fun e w' => e = .returned (.tuple #[.int .i64 (a * b / c), .int .i64 (a * b % c)]) ∧ ∃ n, w' = w.drewN n := by
  obtain ⟨a, rfl⟩ := Int.eq_ofNat_of_zero_le a0
  obtain ⟨b, rfl⟩ := Int.eq_ofNat_of_zero_le b0
  obtain ⟨c, rfl⟩ := Int.eq_ofNat_of_zero_le (Int.le_of_lt c0)
  have h1 : a * b ≤ a * c := Nat.mul_le_mul_left a (by omega)
  have h2 : a * c ≤ 9223372036854775807 * c := Nat.mul_le_mul_right c (by omega)
  have h3 : a * b / c ≤ a := by
    have := Nat.div_le_div_right (c := c) h1
    rwa [Nat.mul_div_cancel _ (by omega)] at this
  have h4 : a * b / 18446744073709551616 < c := by
    rw [Nat.div_lt_iff_lt_mul (by omega)]
    omega
  have := muldiv_any a b c w (by omega) (by omega) (by omega) h4 (by omega)
  rw [Int.natCast_ediv, Int.natCast_emod, Int.natCast_mul] at this
  exact this

/-- The weight of the window before, rounded up. -/
def carry (p E L : Int) : Int := if p = 0 then 0 else p * E / L + (if p * E % L = 0 then 0 else 1)

theorem carry_zero (E L : Int) : carry 0 E L = 0 := by simp [carry]

theorem div_bound {p E L : Int} (p0 : 0 ≤ p) (hE : E ≤ L) (hL : 0 < L) : p * E / L ≤ p := by
  have h1 : p * E ≤ p * L := Int.mul_le_mul_of_nonneg_left hE p0
  have := Int.ediv_le_ediv hL h1
  rwa [Int.mul_ediv_cancel _ (by omega)] at this

theorem div_bound' {p E L : Int} (p0 : 0 ≤ p) (hE : E ≤ L) (hL : 0 < L) (hr : ¬ p * E % L = 0) : p * E / L < p := by
  have h1 : p * E ≤ p * L := Int.mul_le_mul_of_nonneg_left hE p0
  have h2 := Int.mul_ediv_add_emod (p * E) L
  have h3 := Int.emod_nonneg (p * E) (show L ≠ 0 by omega)
  rcases Int.lt_or_le (p * E / L) p with h | h
  · exact h
  · have h4 : L * p ≤ L * (p * E / L) := Int.mul_le_mul_of_nonneg_left h (by omega)
    rw [Int.mul_comm L p] at h4
    omega

theorem carry_bd {p E L : Int} (p0 : 0 ≤ p) (E0 : 0 ≤ E) (hE : E ≤ L) (hL : 0 < L) : 0 ≤ carry p E L ∧ carry p E L ≤ p := by
  have h0 : 0 ≤ p * E / L := Int.ediv_nonneg (Int.mul_nonneg p0 E0) (by omega)
  have h1 := div_bound p0 hE hL
  unfold carry
  by_cases hp : p = 0
  · rw [if_pos hp]; omega
  · rw [if_neg hp]
    by_cases hr : p * E % L = 0
    · rw [if_pos hr]; omega
    · rw [if_neg hr]
      have := div_bound' p0 hE hL hr
      omega

set_option maxHeartbeats 400000 in
theorem carried_zero (b : Nat) (now : Int) (w : World) (hc : w.cell? ⟨b, 3, none⟩ = some (.int .i64 0)) :
    Calls Try.prog 25 #[.pointer (some ⟨b, 0, none⟩), .int .i64 now] w fun e w' => e = .returned (.int .i64 0) ∧ ∃ n, w' = w.drewN n := by
  go_enter Try.func25, Try.ntmps25
  go_wp2
  go_ret
  exact ⟨rfl, 0, rfl⟩

set_option maxHeartbeats 400000 in
theorem carried_pos (b : Nat) (p E L : Int) (w : World) (p0 : 0 < p) (p1 : p ≤ 9223372036854775807) (E0 : 0 ≤ E) (hE : E ≤ L) (L0 : 0 < L) (L1 : L ≤ 9223372036854775807)
    (h0 : w.cell? ⟨b, 0, none⟩ = some (.int .i64 E)) (h1 : w.cell? ⟨b, 1, none⟩ = some (.int .i64 L)) (h3 : w.cell? ⟨b, 3, none⟩ = some (.int .i64 p)) :
    Calls Try.prog 25 #[.pointer (some ⟨b, 0, none⟩), .int .i64 0] w fun e w' => e = .returned (.int .i64 (carry p E L)) ∧ ∃ n, w' = w.drewN n := by
  have hpb : (p == 0) = false := by simp; omega
  have hm := fun w => muldivI_any p E L w (by omega) p1 E0 hE L0 L1
  have d1 := div_bound (p := p) (by omega) hE L0
  have d0 : 0 ≤ p * E / L := Int.ediv_nonneg (Int.mul_nonneg (by omega) E0) (by omega)
  have d2 : ¬ p * E % L = 0 → p * E / L < p := div_bound' (by omega) hE L0
  have hcar : carry p E L = p * E / L + (if p * E % L = 0 then 0 else 1) := by rw [carry, if_neg (by omega)]
  rw [hcar]
  generalize p * E / L = q at *
  generalize p * E % L = r at *
  have HM : Hid (∀ w, Calls Try.prog 28 #[.int .i64 p, .int .i64 E, .int .i64 L] w fun e w' => e = .returned (.tuple #[.int .i64 q, .int .i64 r]) ∧ ∃ n, w' = w.drewN n) := hm
  clear hm hcar
  by_cases hr : r = 0
  · have hrb : (r != 0) = false := by simp [hr]
    rw [if_pos hr, Int.add_zero]
    clear hr d2
    go_enter Try.func25, Try.ntmps25
    go_wp2
    go_quiet ((go_at_call 28; exact Calls.quiet_of (HM.out _)))
    go_wp2
    go_ret
    exact ⟨rfl, _, rfl⟩
  · have hrb : (r != 0) = true := by simp [hr]
    have hlt := d2 hr
    rw [if_neg hr]
    clear hr d2
    go_enter Try.func25, Try.ntmps25
    go_wp2
    go_quiet ((go_at_call 28; exact Calls.quiet_of (HM.out _)))
    go_wp2
    go_ret
    exact ⟨rfl, _, rfl⟩

/-- (*frame).carried, at the moment 0. -/
theorem carried_any (b : Nat) (p E L : Int) (w : World) (p0 : 0 ≤ p) (p1 : p ≤ 9223372036854775807) (hEL : p ≠ 0 → 0 ≤ E ∧ E ≤ L ∧ 0 < L ∧ L ≤ 9223372036854775807)
    (h0 : w.cell? ⟨b, 0, none⟩ = some (.int .i64 E)) (h1 : w.cell? ⟨b, 1, none⟩ = some (.int .i64 L)) (h3 : w.cell? ⟨b, 3, none⟩ = some (.int .i64 p)) :
    Calls Try.prog 25 #[.pointer (some ⟨b, 0, none⟩), .int .i64 0] w fun e w' => e = .returned (.int .i64 (carry p E L)) ∧ ∃ n, w' = w.drewN n := by
  by_cases hp : p = 0
  · subst hp
    rw [carry_zero]
    exact carried_zero b 0 w h3
  · obtain ⟨a, c, d, e⟩ := hEL hp
    exact carried_pos b p E L w (by omega) p1 a c d e h0 h1 h3

set_option maxHeartbeats 400000 in
theorem until_any (b : Nat) (E L : Int) (w : World) (e0 : -9223372036854775808 ≤ E) (l0 : 0 ≤ L) (h : E + L ≤ 9223372036854775807)
    (h0 : w.cell? ⟨b, 0, none⟩ = some (.int .i64 E)) (h1 : w.cell? ⟨b, 1, none⟩ = some (.int .i64 L)) :
    Calls Try.prog 27 #[.pointer (some ⟨b, 0, none⟩), .int .i64 1] w fun e w' => e = .returned (.int .i64 (E + L)) ∧ ∃ n, w' = w.drewN n := by
  go_enter Try.func27, Try.ntmps27
  go_wp2
  go_quiet ((go_at_call 26; exact Calls.quiet_of_same (later_any E L _ e0 l0 h)))
  go_wp2
  go_ret
  exact ⟨rfl, _, rfl⟩

end Go.Proofs.Qxb6628675a
