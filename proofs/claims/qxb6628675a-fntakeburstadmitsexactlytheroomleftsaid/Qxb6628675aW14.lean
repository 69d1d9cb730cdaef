import Derived.Test.Qxb6628675aW13
namespace Go.Proofs.Qxb6628675a
open Go.RowKit

theorem zmulI_any (a b : Int) (w : World) (a0 : 0 ≤ a) (a1 : a ≤ 9223372036854775807) (b0 : 0 ≤ b) (b1 : b ≤ 9223372036854775807) :
    Calls Try.prog 12 #[.int .u64 a, .int .u64 b] w fun e w' => e = .returned (.tuple #[.int .u64 (a * b / 18446744073709551616), .int .u64 (a * b % 18446744073709551616)]) ∧ w' = w := by
  obtain ⟨a, rfl⟩ := Int.eq_ofNat_of_zero_le a0
  obtain ⟨b, rfl⟩ := Int.eq_ofNat_of_zero_le b0
  have := zmul_any a b w (by omega) (by omega)
  rw [Int.natCast_ediv, Int.natCast_emod, Int.natCast_mul] at this
  exact this

theorem cmp128 (X Y : Int) : (decide (X / 18446744073709551616 < Y / 18446744073709551616) || (X / 18446744073709551616 == Y / 18446744073709551616 && decide (X % 18446744073709551616 ≤ Y % 18446744073709551616))) = decide (X ≤ Y) := by
  rw [Bool.eq_iff_iff]
  simp only [Bool.or_eq_true, Bool.and_eq_true, decide_eq_true_eq, beq_iff_eq]
  omega

set_option maxHeartbeats 1000000 in
theorem room_core (E L C P n mx h1 l1 h2 l2 : Int) (r : Bool) (w : World) (d0 : 0 < E - n) (d1 : E - n < 4611686018427387904) (g0 : 0 ≤ L) (g1 : L < 4611686018427387904) (c0 : 0 ≤ C) (p0 : 0 ≤ P) (p1 : P ≤ 9223372036854775807) (m1 : mx ≤ 9223372036854775807) (hc : C < mx)
    (H1 : Hid (∀ W, Calls Try.prog 12 #[.int .u64 P, .int .u64 (E - n)] W fun e w' => e = .returned (.tuple #[.int .u64 h1, .int .u64 l1]) ∧ w' = W))
    (H2 : Hid (∀ W, Calls Try.prog 12 #[.int .u64 (mx - C - 1), .int .u64 L] W fun e w' => e = .returned (.tuple #[.int .u64 h2, .int .u64 l2]) ∧ w' = W))
    (HR : Hid ((decide (h1 < h2) || (h1 == h2 && decide (l1 ≤ l2))) = r)) :
    Calls Try.prog 8 #[.int .i64 E, .int .i64 L, .int .i64 C, .int .i64 P, .int .i64 n, .int .i64 mx] w fun e w' => e = .returned (.bool r) ∧ w' = w := by
  go_enter Try.func8, Try.ntmps8
  go_wp2_with fail
  refine (H1.out _).mono ?_
  rintro e w1 ⟨rfl, rfl⟩
  go_wp2_with fail
  refine (H2.out _).mono ?_
  rintro e w2 ⟨rfl, rfl⟩
  go_wp2_with fail
  · rename_i hq he
    go_ret
    refine ⟨?_, rfl⟩
    have hr : r = decide (l1 ≤ l2) := by
      rw [← HR.out, Bool.eq_iff_iff]
      simp only [Bool.or_eq_true, Bool.and_eq_true, decide_eq_true_eq, beq_iff_eq]
      omega
    rw [hr]
    rfl
  · rename_i hq he
    go_ret
    refine ⟨?_, rfl⟩
    have hr : r = decide (h1 < h2) := by
      rw [← HR.out, Bool.eq_iff_iff]
      simp only [Bool.or_eq_true, Bool.and_eq_true, decide_eq_true_eq, beq_iff_eq]
      omega
    rw [hr]
    rfl
  · rename_i hq
    go_ret
    refine ⟨?_, rfl⟩
    have hr : r = true := by
      rw [← HR.out]
      simp only [Bool.or_eq_true, Bool.and_eq_true, decide_eq_true_eq, beq_iff_eq]
      omega
    rw [hr]
    rfl

theorem zroom_any (f : Fr) (n mx : Int) (w : World) (g : Good f n) (m1 : mx ≤ 9223372036854775807) :
    Calls Try.prog 8 #[.int .i64 f.E, .int .i64 f.L, .int .i64 f.C, .int .i64 f.P, .int .i64 n, .int .i64 mx] w fun e w' => e = .returned (.bool (room f n mx)) ∧ w' = w := by
  obtain ⟨E, L, C, P⟩ := f
  obtain ⟨d0, d1, l1, c0, c1, p0, p1, e0, e1⟩ := g
  dsimp only at *
  by_cases hc : C < mx
  · refine room_core E L C P n mx _ _ _ _ _ w d0 (by omega) (by omega) l1 c0 p0 p1 m1 hc
      (fun W => zmulI_any P (E - n) W p0 p1 (by omega) (by omega)) (fun W => zmulI_any (mx - C - 1) L W (by omega) (by omega) (by omega) (by omega)) ?_
    show (decide _ || _) = _
    rw [cmp128]
    unfold room
    simp only [hc, true_and]
  · have hr : room ⟨E, L, C, P⟩ n mx = false := by
      unfold room
      simp only [hc, false_and, decide_false]
    rw [hr]
    have hc' : mx ≤ C := by omega
    go_enter Try.func8, Try.ntmps8
    go_wp2_with fail
    go_ret
    exact ⟨rfl, rfl⟩
end Go.Proofs.Qxb6628675a
