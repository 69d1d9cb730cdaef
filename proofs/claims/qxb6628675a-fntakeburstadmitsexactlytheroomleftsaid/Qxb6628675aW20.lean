import Derived.Test.Qxb6628675aW19
namespace Go.Proofs.Qxb6628675a
open Go.RowKit

/-- The window after a requests of the burst were admitted. -/
def St (w : World) (b : Nat) (e l c p E L C P a : Int) : Prop := (a = 0 ∧ Win w b e l c p) ∨ (0 < a ∧ Win w b E L (C + a) P)

theorem St.below {w w' : World} {b B : Nat} {e l c p E L C P a : Int} (h : St w b e l c p E L C P a) (hb : Below B w w') (hB : b < B) : St w' b e l c p E L C P a := by
  rcases h with ⟨h0, h⟩ | ⟨h0, h⟩
  · exact .inl ⟨h0, h.below hb hB⟩
  · exact .inr ⟨h0, h.below hb hB⟩

theorem St.lt {w : World} {b : Nat} {e l c p E L C P a : Int} (h : St w b e l c p E L C P a) : b < w.heap.size := by
  rcases h with ⟨h0, h⟩ | ⟨h0, h⟩
  · exact h.lt
  · exact h.lt

theorem pre_in {E L C P n mx ll a : Int} (g : Good ⟨E, L, C, P⟩ n) (n0 : -4611686018427387904 < n) (n1 : n < 4611686018427387904) (q0 : 1 ≤ ll) (q1 : ll < 4611686018427387904) (m0 : 1 ≤ mx) (m1 : mx ≤ 9223372036854775807) (a0 : 0 ≤ a) (hc : C + a ≤ 9223372036854775807) : Pre E L (C + a) P n mx ll := by
  obtain ⟨d0, d1, l1, c0, c1, p0, p1, e0, e1⟩ := g
  dsimp only at *
  constructor <;> omega

theorem inW_in {E L C P n ll alg : Int} (h : 0 < E - n) : inW E L C P n ll alg = ⟨E, L, C, P⟩ := by
  rw [inW, if_pos (by omega)]

theorem good_add {E L C P n a : Int} (g : Good ⟨E, L, C, P⟩ n) (a0 : 0 ≤ a) (hc : C + a ≤ 9223372036854775807) : Good ⟨E, L, C + a, P⟩ n := by
  obtain ⟨d0, d1, l1, c0, c1, p0, p1, e0, e1⟩ := g
  dsimp only at *
  constructor <;> dsimp only <;> omega

theorem step_no (b : Nat) (e l c p n mx ll alg E L C P a : Int) (w : World) (pre : Pre e l c p n mx ll) (hf : inW e l c p n ll alg = ⟨E, L, C, P⟩) (a0 : 0 ≤ a) (hc : C + a ≤ 9223372036854775807)
    (hS : St w b e l c p E L C P a) (hr : room ⟨E, L, C + a, P⟩ n mx = false) :
    Calls Try.prog 7 #[.pointer (some ⟨b, 0, none⟩), .int .i64 n, .int .i64 mx, .int .i64 ll, .int .i64 alg] w fun r w' => r = .returned (.bool false) ∧ St w' b e l c p E L C P a ∧ w.grownBy w' (some b) := by
  have g := pre.good alg
  rw [hf] at g
  rcases hS with ⟨h0, h⟩ | ⟨h0, h⟩
  · subst h0
    rw [Int.add_zero] at hr
    refine (ztake_ref2 b e l c p n mx ll alg _ w h pre hf hr).mono ?_
    rintro r w' ⟨rfl, h1, h2⟩
    exact ⟨rfl, .inl ⟨rfl, h1⟩, h2⟩
  · refine (ztake_ref2 b E L (C + a) P n mx ll alg _ w h (pre_in g pre.n0 pre.n1 pre.q0 pre.q1 pre.m0 pre.m1 a0 hc) (inW_in g.d0) hr).mono ?_
    rintro r w' ⟨rfl, h1, h2⟩
    exact ⟨rfl, .inr ⟨h0, h1⟩, h2⟩

theorem step_yes (b : Nat) (e l c p n mx ll alg E L C P a : Int) (w : World) (pre : Pre e l c p n mx ll) (hf : inW e l c p n ll alg = ⟨E, L, C, P⟩) (a0 : 0 ≤ a) (hc : C + a ≤ 9223372036854775807)
    (hS : St w b e l c p E L C P a) (hr : room ⟨E, L, C + a, P⟩ n mx = true) :
    Calls Try.prog 7 #[.pointer (some ⟨b, 0, none⟩), .int .i64 n, .int .i64 mx, .int .i64 ll, .int .i64 alg] w fun r w' => r = .returned (.bool true) ∧ St w' b e l c p E L C P (a + 1) ∧ w.grownBy w' (some b) := by
  have g := pre.good alg
  rw [hf] at g
  rcases hS with ⟨h0, h⟩ | ⟨h0, h⟩
  · subst h0
    rw [Int.add_zero] at hr
    refine (ztake_adm b e l c p n mx ll alg _ w h pre hf hr).mono ?_
    rintro r w' ⟨rfl, h1, h2⟩
    refine ⟨rfl, .inr ⟨by omega, ?_⟩, h2⟩
    rw [Int.zero_add]
    exact h1
  · refine (ztake_adm b E L (C + a) P n mx ll alg _ w h (pre_in g pre.n0 pre.n1 pre.q0 pre.q1 pre.m0 pre.m1 a0 hc) (inW_in g.d0) hr).mono ?_
    rintro r w' ⟨rfl, h1, h2⟩
    refine ⟨rfl, .inr ⟨by omega, ?_⟩, h2⟩
    rw [← Int.add_assoc]
    exact h1

/-- The guards of the first law let the input pass. -/
structure Ok3 (e l c p n m q k : Int) : Prop where
  k0 : 1 ≤ k
  k1 : k ≤ 65536
  e0 : -4611686018427387904 < e
  e1 : e < 4611686018427387904
  a0 : -4611686018427387904 < n
  a1 : n < 4611686018427387904
  l0 : 0 ≤ l
  l1 : l < 4611686018427387904
  q0 : 1 ≤ q
  q1 : q < 4611686018427387904
  c0 : 0 ≤ c
  p0 : 0 ≤ p
  m0 : 1 ≤ m
  ha : n < e → e - n ≤ l

set_option maxRecDepth 20000 in
set_option maxHeartbeats 4000000 in
theorem law3_no (e l c p n m q g k : Int) (w : World) (hno : Hid (¬ Ok3 e l c p n m q k)) :
    Calls Try.prog 3 #[.int .i64 e, .int .i64 l, .int .i64 c, .int .i64 p, .int .i64 n, .int .i64 m, .int .i64 q, .int .i64 g, .int .i64 k] w fun e w' => e = .returned (.bool true) ∧ Below w.heap.size w w' := by
  go_enter Try.func3, Try.ntmps3
  go_wp2_with fail
  all_goals first
    | (go_ret; exact ⟨rfl, Below.refl _ _⟩)
    | (exfalso; refine hno.out ⟨?_, ?_, ?_, ?_, ?_, ?_, ?_, ?_, ?_, ?_, ?_, ?_, ?_, ?_⟩ <;> omega)
end Go.Proofs.Qxb6628675a
