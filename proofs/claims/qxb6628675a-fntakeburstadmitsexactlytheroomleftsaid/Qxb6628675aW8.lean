import Derived.Test.Qxb6628675aW7
namespace Go.Proofs.Qxb6628675a
open Go.RowKit

set_option maxHeartbeats 400000 in
theorem equal_same (s n : Int) (w : World) (n0 : 0 ≤ n) (n1 : n < 1000000000) :
    Calls Try.prog 22 #[tv s n, tv s n] w fun e w' => e = .returned (.bool true) ∧ Below w.heap.size w w' := by
  have hb : (bits .and .u64 (bits .and .u64 n n) 9223372036854775808 != 0) = false := by rw [both_zero n n n0 n1 n0 n1]; rfl
  go_enter Try.func22, Try.ntmps22
  go_wp2_with fail
  refine (sec_any w.heap.size n s _ n0 n1 ?_ ?_).mono ?_
  · simp
  · simp
  rintro e w1 ⟨rfl, rfl⟩
  go_wp2_with fail
  refine (sec_any (w.heap.size + 1) n s _ n0 n1 ?_ ?_).mono ?_
  · simp
  · simp
  rintro e w2 ⟨rfl, rfl⟩
  go_wp2_with fail
  refine (nsec_any w.heap.size n _ n0 n1 ?_).mono ?_
  · simp
  rintro e w3 ⟨rfl, rfl⟩
  go_wp2_with fail
  refine (nsec_any (w.heap.size + 1) n _ n0 n1 ?_).mono ?_
  · simp
  rintro e w4 ⟨rfl, rfl⟩
  go_wp2_with fail
  go_ret
  exact ⟨rfl, ((Below.refl _ _).alloc (Nat.le_refl _) _).alloc (by simp) _⟩

set_option maxHeartbeats 1000000 in
theorem sub_core (s n t m D : Int) (w : World) (n0 : 0 ≤ n) (n1 : n < 1000000000) (m0 : 0 ≤ m) (m1 : m < 1000000000) (s0 : -20000000000 ≤ s) (s1 : s ≤ 20000000000) (t0 : -20000000000 ≤ t) (t1 : t ≤ 20000000000)
    (hD : wrap64 (wrap64 ((s - t) * 1000000000) + (n - m)) = D) (HA : Hid (∀ W, Calls Try.prog 10 #[tv t m, .int .i64 D] W fun e w' => e = .returned (tv s n) ∧ Below W.heap.size W w')) :
    Calls Try.prog 13 #[tv s n, tv t m] w fun e w' => e = .returned (.int .i64 D) ∧ Below w.heap.size w w' := by
  have hb : (bits .and .u64 (bits .and .u64 n m) 9223372036854775808 != 0) = false := by rw [both_zero n m n0 n1 m0 m1]; rfl
  have HD : Hid (wrap64 (wrap64 ((s - t) * 1000000000) + (n - m)) = D) := hD
  clear hD
  go_enter Try.func13, Try.ntmps13
  go_wp2_with fail
  refine (sec_any w.heap.size n s _ n0 n1 ?_ ?_).mono ?_
  · simp
  · simp
  rintro e w1 ⟨rfl, rfl⟩
  go_wp2_with fail
  refine (sec_any (w.heap.size + 1) m t _ m0 m1 ?_ ?_).mono ?_
  · simp
  · simp
  rintro e w2 ⟨rfl, rfl⟩
  go_wp2_with fail
  refine (nsec_any w.heap.size n _ n0 n1 ?_).mono ?_
  · simp
  rintro e w3 ⟨rfl, rfl⟩
  go_wp2_with fail
  refine (nsec_any (w.heap.size + 1) m _ m0 m1 ?_).mono ?_
  · simp
  rintro e w4 ⟨rfl, rfl⟩
  go_wp2_with fail
  simp only [HD.out]
  go_region_with (first | (go_at_call 10; refine (HA.out _).mono ?_; rintro e w5 ⟨rfl, hb5⟩; have hc5 : ∀ o, w5.cell? ⟨w.heap.size, o, none⟩ = _ := fun o => hb5.cell (p := ⟨w.heap.size, o, none⟩) (by simp; omega)) | (go_at_call 22; refine (equal_same s n _ n0 n1).mono ?_; rintro e w6 ⟨rfl, hb6⟩))
  all_goals
    go_wp2
    go_ret
    refine ⟨rfl, ?_⟩
    have z5 := hb5.size
    simp at z5
    exact ((((Below.refl _ w).alloc (Nat.le_refl _) _).alloc (by simp) _).drew.trans (hb5.mono (by simp; omega))).trans (hb6.mono (by omega))
theorem wrap_sub (x y : Int) (h0 : -9223372036854775808 ≤ x - y) (h1 : x - y ≤ 9223372036854775807) : wrap64 (wrap64 ((x / 1000000000 - y / 1000000000) * 1000000000) + (x % 1000000000 - y % 1000000000)) = x - y := by
  unfold wrap64
  omega

/-- (time.Time).Sub, without saturation. -/
theorem sub_any (x y : Int) (w : World) (x0 : -18446744073709551616 ≤ x) (x1 : x ≤ 18446744073709551616) (y0 : -18446744073709551616 ≤ y) (y1 : y ≤ 18446744073709551616) (h0 : -9223372036854775808 ≤ x - y) (h1 : x - y ≤ 9223372036854775807) :
    Calls Try.prog 13 #[T x, T y] w fun e w' => e = .returned (.int .i64 (x - y)) ∧ Below w.heap.size w w' := by
  refine sub_core (x / 1000000000) (x % 1000000000) (y / 1000000000) (y % 1000000000) (x - y) w (by omega) (by omega) (by omega) (by omega) (by omega) (by omega) (by omega) (by omega) (wrap_sub x y h0 h1) ?_
  intro W
  have := add_any y (x - y) W y0 y1 h0 h1
  rwa [show y + (x - y) = x from by omega] at this

end Go.Proofs.Qxb6628675a
