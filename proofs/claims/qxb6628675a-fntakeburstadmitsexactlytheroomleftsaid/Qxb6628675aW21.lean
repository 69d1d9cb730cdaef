import Derived.Test.Qxb6628675aW20
namespace Go.Proofs.Qxb6628675a
open Go.RowKit

set_option maxRecDepth 20000 in
set_option maxHeartbeats 4000000 in
theorem law3_yes (e l c p n m q g k E L C P : Int) (w : World)
    (k0 : 1 ≤ k) (k1 : k ≤ 65536) (e0 : -4611686018427387904 < e) (e1 : e < 4611686018427387904) (a0 : -4611686018427387904 < n) (a1 : n < 4611686018427387904)
    (l0 : 0 ≤ l) (l1 : l < 4611686018427387904) (q0 : 1 ≤ q) (q1 : q < 4611686018427387904)
    (c0 : 0 ≤ c) (p0 : 0 ≤ p) (m0 : 1 ≤ m) (m1 : m ≤ 9223372036854775807) (ha : n < e → e - n ≤ l)
    (d0 : 0 ≤ C) (d1 : C ≤ 9223372036854775807) (d2 : -9223372036854775808 ≤ E) (d3 : E ≤ 9223372036854775807)
    (Hin : Hid (∀ W, Calls Try.prog 5 #[.int .i64 e, .int .i64 l, .int .i64 c, .int .i64 p, .int .i64 n, .int .i64 q, .int .i64 g] W fun r w' => r = .returned (.tuple #[.int .i64 E, .int .i64 L, .int .i64 C, .int .i64 P]) ∧ w' = W))
    (Hstep : Hid (∀ a, 0 ≤ a → C + a ≤ 9223372036854775807 → ∃ r : Bool, (r = true → C + a < m) ∧
      (∀ W, Calls Try.prog 8 #[.int .i64 E, .int .i64 L, .int .i64 (C + a), .int .i64 P, .int .i64 n, .int .i64 m] W fun e w' => e = .returned (.bool r) ∧ w' = W) ∧
      (∀ W b, St W b e l c p E L C P a → Calls Try.prog 7 #[.pointer (some ⟨b, 0, none⟩), .int .i64 n, .int .i64 m, .int .i64 q, .int .i64 g] W fun r' w' => r' = .returned (.bool r) ∧ St w' b e l c p E L C P (if r then a + 1 else a) ∧ W.grownBy w' (some b)))) :
    Calls Try.prog 3 #[.int .i64 e, .int .i64 l, .int .i64 c, .int .i64 p, .int .i64 n, .int .i64 m, .int .i64 q, .int .i64 g, .int .i64 k] w fun e w' => e = .returned (.bool true) ∧ Below w.heap.size w w' := by
  have G1 : ¬ (n < e ∧ l < e - n) := by omega
  go_enter Try.func3, Try.ntmps3
  go_wp2_with fail
  all_goals
    refine (Hin.out _).mono ?_
    rintro r w0 ⟨rfl, rfl⟩
    go_wp2_with fail
    refine (window_any e l c p _ (by omega) (by omega)).mono ?_
    rintro r w1 ⟨b, rfl, z1, hW1, hB1⟩
    have HW1 : Hid (Win w1 b e l c p) := hW1
    clear hW1
    go_wp2_with fail
    go_loopw [24, 25] (fun va vi wr => ∃ a i : Int, va = .int .i64 a ∧ vi = .int .i64 i ∧ 0 ≤ a ∧ a ≤ i ∧ i ≤ k ∧ C + a ≤ 9223372036854775807 ∧ Hid (St wr b e l c p E L C P a) ∧ Hid (Below w0.heap.size w0 wr)) (fun _ i _ => (k - intOf i).toNat)
    case atStart => exact ⟨0, 0, rfl, rfl, by omega, by omega, by omega, by omega, .inl ⟨rfl, HW1.out⟩, hB1⟩
    case round =>
      obtain ⟨a, i, rfl, rfl, x0, x1, x2, x3, HS, HB⟩ := hrel
      by_cases hlt : i < k
      · obtain ⟨r, hr, HR0, HT0⟩ := Hstep.out a x0 x3
        cases r
        · have HR : Hid (∀ W, Calls Try.prog 8 #[.int .i64 E, .int .i64 L, .int .i64 (C + a), .int .i64 P, .int .i64 n, .int .i64 m] W fun e w' => e = .returned (.bool false) ∧ w' = W) := HR0
          have HT : Hid (∀ W b, St W b e l c p E L C P a → Calls Try.prog 7 #[.pointer (some ⟨b, 0, none⟩), .int .i64 n, .int .i64 m, .int .i64 q, .int .i64 g] W fun r' w' => r' = .returned (.bool false) ∧ St w' b e l c p E L C P a ∧ W.grownBy w' (some b)) := HT0
          clear HR0 HT0 hr
          go_wp2_with fail
          refine (HT.out _ b HS.out).mono ?_
          rintro r w2 ⟨rfl, hS2, hg2⟩
          have HS2 : Hid (St w2 b e l c p E L C P a) := hS2
          clear hS2
          go_wp2_with fail
          refine (HR.out _).mono ?_
          rintro r w3 ⟨rfl, rfl⟩
          go_wp2_with fail
          go_roundw
          case rel => exact ⟨a, i + 1, rfl, by go_num, by omega, by omega, by omega, by omega, HS2.out, HB.out.grown hg2 HB.out.size (fun k hk => by cases hk; exact z1)⟩
          case measure => simp [intOf]; omega
        · have hr := hr rfl
          have HR : Hid (∀ W, Calls Try.prog 8 #[.int .i64 E, .int .i64 L, .int .i64 (C + a), .int .i64 P, .int .i64 n, .int .i64 m] W fun e w' => e = .returned (.bool true) ∧ w' = W) := HR0
          have HT : Hid (∀ W b, St W b e l c p E L C P a → Calls Try.prog 7 #[.pointer (some ⟨b, 0, none⟩), .int .i64 n, .int .i64 m, .int .i64 q, .int .i64 g] W fun r' w' => r' = .returned (.bool true) ∧ St w' b e l c p E L C P (a + 1) ∧ W.grownBy w' (some b)) := HT0
          clear HR0 HT0
          go_wp2_with fail
          refine (HT.out _ b HS.out).mono ?_
          rintro r w2 ⟨rfl, hS2, hg2⟩
          have HS2 : Hid (St w2 b e l c p E L C P (a + 1)) := hS2
          clear hS2
          go_wp2_with fail
          refine (HR.out _).mono ?_
          rintro r w3 ⟨rfl, rfl⟩
          go_wp2_with fail
          go_roundw
          case rel => exact ⟨a + 1, i + 1, by go_num, by go_num, by omega, by omega, by omega, by omega, HS2.out, HB.out.grown hg2 HB.out.size (fun k hk => by cases hk; exact z1)⟩
          case measure => simp [intOf]; omega
      · by_cases ha0 : a = 0
        · subst ha0
          have HW : Hid (Win wr b e l c p) := by
            rcases HS.out with ⟨_, h⟩ | ⟨h0, _⟩
            · exact h
            · omega
          go_wp2_with fail
          refine (fields_any b _ _ _ _ _ HW.out (by omega) (by omega)).mono ?_
          rintro r w4 ⟨rfl, hB4⟩
          go_wp2_with fail
          go_ret
          exact ⟨rfl, HB.out.trans (hB4.mono HB.out.size)⟩
        · have ha1 : 0 < a := by omega
          have HW : Hid (Win wr b E L (C + a) P) := by
            rcases HS.out with ⟨h0, _⟩ | ⟨_, h⟩
            · omega
            · exact h
          go_wp2_with fail
          refine (fields_any b _ _ _ _ _ HW.out (by omega) (by omega)).mono ?_
          rintro r w4 ⟨rfl, hB4⟩
          go_wp2_with fail
          go_ret
          exact ⟨rfl, HB.out.trans (hB4.mono HB.out.size)⟩
end Go.Proofs.Qxb6628675a
