import Derived.Test.Qxb6628675aW16
namespace Go.Proofs.Qxb6628675a
open Go.RowKit

set_option maxRecDepth 20000 in
set_option maxHeartbeats 4000000 in
theorem law4_ra (e l c p n1 m1 q1 g1 n2 m2 q2 g2 E1 L1 C1 P1 E2 L2 C2 P2 : Int) (w : World)
    (e0 : -4611686018427387904 < e) (e1 : e < 4611686018427387904) (a0 : -4611686018427387904 < n1) (a1 : n1 < 4611686018427387904) (b0 : -4611686018427387904 < n2) (b1 : n2 < 4611686018427387904)
    (l0 : 0 ≤ l) (l1 : l < 4611686018427387904) (h0 : 1 ≤ q1) (h1 : q1 < 4611686018427387904) (r0 : 1 ≤ q2) (r1 : q2 < 4611686018427387904)
    (c0 : 0 ≤ c) (p0 : 0 ≤ p) (m0 : 1 ≤ m1) (k0 : 1 ≤ m2) (ha : n1 < e → e - n1 ≤ l) (hb : n2 < e → e - n2 ≤ l)
    (d0 : 0 ≤ C2) (d1 : C2 < 9223372036854775807) (d2 : -9223372036854775808 ≤ E2) (d3 : E2 ≤ 9223372036854775807)
    (Hin : Hid (∀ W, Calls Try.prog 5 #[.int .i64 e, .int .i64 l, .int .i64 c, .int .i64 p, .int .i64 n1, .int .i64 q1, .int .i64 g1] W fun r w' => r = .returned (.tuple #[.int .i64 E1, .int .i64 L1, .int .i64 C1, .int .i64 P1]) ∧ w' = W))
    (Hroom : Hid (∀ W, Calls Try.prog 8 #[.int .i64 E1, .int .i64 L1, .int .i64 C1, .int .i64 P1, .int .i64 n1, .int .i64 m1] W fun e w' => e = .returned (.bool false) ∧ w' = W))
    (Htake : Hid (∀ W b, Win W b e l c p → Calls Try.prog 7 #[.pointer (some ⟨b, 0, none⟩), .int .i64 n1, .int .i64 m1, .int .i64 q1, .int .i64 g1] W fun r w' => r = .returned (.bool false) ∧ Below W.heap.size W w'))
    (Hin2 : Hid (∀ W, Calls Try.prog 5 #[.int .i64 e, .int .i64 l, .int .i64 c, .int .i64 p, .int .i64 n2, .int .i64 q2, .int .i64 g2] W fun r w' => r = .returned (.tuple #[.int .i64 E2, .int .i64 L2, .int .i64 C2, .int .i64 P2]) ∧ w' = W))
    (Hroom2 : Hid (∀ W, Calls Try.prog 8 #[.int .i64 E2, .int .i64 L2, .int .i64 C2, .int .i64 P2, .int .i64 n2, .int .i64 m2] W fun e w' => e = .returned (.bool true) ∧ w' = W))
    (Htake2 : Hid (∀ W b, Win W b e l c p → Calls Try.prog 7 #[.pointer (some ⟨b, 0, none⟩), .int .i64 n2, .int .i64 m2, .int .i64 q2, .int .i64 g2] W fun r w' => r = .returned (.bool true) ∧ Win w' b E2 L2 (C2 + 1) P2 ∧ W.grownBy w' (some b))) :
    Calls Try.prog 4 #[.int .i64 e, .int .i64 l, .int .i64 c, .int .i64 p, .int .i64 n1, .int .i64 m1, .int .i64 q1, .int .i64 g1, .int .i64 n2, .int .i64 m2, .int .i64 q2, .int .i64 g2] w fun e w' => e = .returned (.bool true) ∧ Below w.heap.size w w' := by
  have G1 : ¬ (n1 < e ∧ l < e - n1) := by omega
  have G2 : ¬ (n2 < e ∧ l < e - n2) := by omega
  go_enter Try.func4, Try.ntmps4
  go_wp2_with fail
  all_goals
    refine (Hin.out _).mono ?_
    rintro r w0 ⟨rfl, rfl⟩
    go_wp2_with fail
    refine (window_any e l c p _ (by omega) (by omega)).mono ?_
    rintro r w1 ⟨b, rfl, z1, hW1, hB1⟩
    have HW1 : Hid (Win w1 b e l c p) := hW1
    clear hW1
    go_wp2_with fail
    refine (Htake.out _ b HW1.out).mono ?_
    rintro r w2 ⟨rfl, hB2⟩
    have HW2 : Hid (Win w2 b e l c p) := HW1.out.below hB2 HW1.out.lt
    go_wp2_with fail
    refine (Hroom.out _).mono ?_
    rintro r w3 ⟨rfl, rfl⟩
    go_wp2_with fail
    refine (fields_any b _ _ _ _ _ HW2.out (by omega) (by omega)).mono ?_
    rintro r w4 ⟨rfl, hB4⟩
    have HW4 : Hid (Win w4 b e l c p) := HW2.out.below hB4 HW2.out.lt
    go_wp2_with fail
    refine (Hin2.out _).mono ?_
    rintro r w5 ⟨rfl, rfl⟩
    go_wp2_with fail
    refine (Htake2.out _ b HW4.out).mono ?_
    rintro r w6 ⟨rfl, hW6, hg6⟩
    have HW6 : Hid (Win w6 b E2 L2 (C2 + 1) P2) := hW6
    clear hW6
    go_wp2_with fail
    refine (window_any e l c p _ (by omega) (by omega)).mono ?_
    rintro r w7 ⟨b7, rfl, z7, hW7, hB7⟩
    have HV7 : Hid (Win w7 b7 e l c p) := hW7
    clear hW7
    have HW7 : Hid (Win w7 b E2 L2 (C2 + 1) P2) := HW6.out.below hB7 HW6.out.lt
    have hne : Hid (b ≠ b7) := fun hh => by have := HW6.out.lt; rw [hh] at this; omega
    go_wp2_with fail
    refine (Htake2.out _ b7 HV7.out).mono ?_
    rintro r w8 ⟨rfl, hV8, hg8⟩
    have HV8 : Hid (Win w8 b7 E2 L2 (C2 + 1) P2) := hV8
    clear hV8
    have HW8 : Hid (Win w8 b E2 L2 (C2 + 1) P2) := HW7.out.grown hg8 hne.out
    go_wp2_with fail
    refine (Hroom2.out _).mono ?_
    rintro r w9 ⟨rfl, rfl⟩
    go_wp2_with fail
    refine (fields_any b _ _ _ _ _ HW8.out (by omega) (by omega)).mono ?_
    rintro r w10 ⟨rfl, hB10⟩
    have HV10 : Hid (Win w10 b7 E2 L2 (C2 + 1) P2) := HV8.out.below hB10 HV8.out.lt
    go_wp2_with fail
    refine (fields_any b7 _ _ _ _ _ HV10.out (by omega) (by omega)).mono ?_
    rintro r w11 ⟨rfl, hB11⟩
    go_wp2_with fail
    go_ret
    have s1 := hB1.size
    have s2 := hB2.size
    have s4 := hB4.size
    have s6 := hg6.size
    have s7 := hB7.size
    have s8 := hg8.size
    have s10 := hB10.size
    have k4 := (hB1.trans (hB2.mono s1)).trans (hB4.mono (Nat.le_trans s1 s2))
    have k6 := k4.grown hg6 k4.size (fun k hk => by cases hk; exact z1)
    have k7 := k6.trans (hB7.mono k6.size)
    have k8 := k7.grown hg8 k7.size (fun k hk => by cases hk; exact Nat.le_trans k6.size z7)
    have k10 := k8.trans (hB10.mono k8.size)
    exact ⟨rfl, k10.trans (hB11.mono k10.size)⟩
end Go.Proofs.Qxb6628675a
