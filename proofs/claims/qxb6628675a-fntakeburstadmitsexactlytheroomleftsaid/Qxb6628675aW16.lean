import Derived.Test.Qxb6628675aW15
import Derived.Test.Qxb6628675aW12
namespace Go.Proofs.Qxb6628675a
open Go.RowKit

theorem Win.grown {w w' : World} {b k : Nat} {e l c p : Int} (h : Win w b e l c p) (hg : w.grownBy w' (some k)) (hne : b ≠ k) : Win w' b e l c p := by
  have hb : w'.heap[b]? = w.heap[b]? := hg.block b h.lt (by simpa using hne)
  have hc : ∀ o, w'.cell? ⟨b, o, none⟩ = w.cell? ⟨b, o, none⟩ := fun o => World.cell?_of_block (w := w) (a := ⟨b, o, none⟩) hb
  have hf : ∀ o, w'.frozen? ⟨b, o, none⟩ = w.frozen? ⟨b, o, none⟩ := fun o => World.frozen?_of_block (w := w) (a := ⟨b, o, none⟩) hb
  obtain ⟨c0, c1, c2, c3, c4, c5, free, lt⟩ := h
  exact ⟨(hc _).trans c0, (hc _).trans c1, (hc _).trans c2, (hc _).trans c3, (hc _).trans c4, (hc _).trans c5, fun j => (hf _).trans (free j), Nat.lt_of_lt_of_le lt hg.size⟩

set_option maxRecDepth 20000 in
set_option maxHeartbeats 4000000 in
theorem law4_yes (e l c p n1 m1 q1 g1 n2 m2 q2 g2 E1 L1 C1 P1 : Int) (w : World)
    (e0 : -4611686018427387904 < e) (e1 : e < 4611686018427387904) (a0 : -4611686018427387904 < n1) (a1 : n1 < 4611686018427387904) (b0 : -4611686018427387904 < n2) (b1 : n2 < 4611686018427387904)
    (l0 : 0 ≤ l) (l1 : l < 4611686018427387904) (h0 : 1 ≤ q1) (h1 : q1 < 4611686018427387904) (r0 : 1 ≤ q2) (r1 : q2 < 4611686018427387904)
    (c0 : 0 ≤ c) (p0 : 0 ≤ p) (m0 : 1 ≤ m1) (k0 : 1 ≤ m2) (ha : n1 < e → e - n1 ≤ l) (hb : n2 < e → e - n2 ≤ l)
    (d0 : 0 ≤ C1) (d1 : C1 < 9223372036854775807) (d2 : -9223372036854775808 ≤ E1) (d3 : E1 ≤ 9223372036854775807)
    (Hin : Hid (∀ W, Calls Try.prog 5 #[.int .i64 e, .int .i64 l, .int .i64 c, .int .i64 p, .int .i64 n1, .int .i64 q1, .int .i64 g1] W fun r w' => r = .returned (.tuple #[.int .i64 E1, .int .i64 L1, .int .i64 C1, .int .i64 P1]) ∧ w' = W))
    (Hroom : Hid (∀ W, Calls Try.prog 8 #[.int .i64 E1, .int .i64 L1, .int .i64 C1, .int .i64 P1, .int .i64 n1, .int .i64 m1] W fun e w' => e = .returned (.bool true) ∧ w' = W))
    (Htake : Hid (∀ W b, Win W b e l c p → Calls Try.prog 7 #[.pointer (some ⟨b, 0, none⟩), .int .i64 n1, .int .i64 m1, .int .i64 q1, .int .i64 g1] W fun r w' => r = .returned (.bool true) ∧ Win w' b E1 L1 (C1 + 1) P1 ∧ W.grownBy w' (some b))) :
    Calls Try.prog 4 #[.int .i64 e, .int .i64 l, .int .i64 c, .int .i64 p, .int .i64 n1, .int .i64 m1, .int .i64 q1, .int .i64 g1, .int .i64 n2, .int .i64 m2, .int .i64 q2, .int .i64 g2] w fun e w' => e = .returned (.bool true) ∧ Below w.heap.size w w' := by
  have G1 : ¬ (n1 < e ∧ l < e - n1) := by omega
  have G2 : ¬ (n2 < e ∧ l < e - n2) := by omega
  go_enter Try.func4, Try.ntmps4
  go_wp2_with fail
  all_goals
    refine (Hin.out _).mono ?_
    rintro r w0 ⟨rfl, rfl⟩
    go_wp2_with fail
    refine (window_any e l c p _ (by omega) (by omega)).mono ?_
    rintro r w1 ⟨b, rfl, z1, hW1, hB1⟩
    have HW1 : Hid (Win w1 b e l c p) := hW1
    clear hW1
    go_wp2_with fail
    refine (Htake.out _ b HW1.out).mono ?_
    rintro r w2 ⟨rfl, hW2, hg2⟩
    have HW2 : Hid (Win w2 b E1 L1 (C1 + 1) P1) := hW2
    clear hW2
    go_wp2_with fail
    refine (Hroom.out _).mono ?_
    rintro r w3 ⟨rfl, rfl⟩
    go_wp2_with fail
    refine (fields_any b _ _ _ _ _ HW2.out d2 d3).mono ?_
    rintro r w4 ⟨rfl, hB4⟩
    go_wp2_with fail
    go_ret
    exact ⟨rfl, (hB1.grown hg2 hB1.size (fun k hk => by cases hk; exact z1)).trans (hB4.mono (Nat.le_trans hB1.size hg2.size))⟩
end Go.Proofs.Qxb6628675a
