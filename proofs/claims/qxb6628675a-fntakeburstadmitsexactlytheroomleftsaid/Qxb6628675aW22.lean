import Derived.Test.Qxb6628675aW21
namespace Go.Proofs.Qxb6628675a
open Go.RowKit

theorem law3_any (e l c p n m q g k : Int) (w : World) (c1 : c ≤ 9223372036854775807) (p1 : p ≤ 9223372036854775807) (m1 : m ≤ 9223372036854775807) :
    Calls Try.prog 3 #[.int .i64 e, .int .i64 l, .int .i64 c, .int .i64 p, .int .i64 n, .int .i64 m, .int .i64 q, .int .i64 g, .int .i64 k] w fun e w' => e = .returned (.bool true) ∧ Below w.heap.size w w' := by
  by_cases ok : Ok3 e l c p n m q k
  · obtain ⟨k0, k1, e0, e1, a0, a1, l0, l1, q0, q1, c0, p0, m0, ha⟩ := ok
    have pre : Pre e l c p n m q := ⟨e0, by omega, a0, a1, l0, l1, q0, q1, c0, c1, p0, p1, m0, m1, ha⟩
    have good := pre.good g
    generalize hf : inW e l c p n q g = f at good
    obtain ⟨E, L, C, P⟩ := f
    refine law3_yes e l c p n m q g k E L C P w k0 k1 e0 e1 a0 a1 l0 l1 q0 q1 c0 p0 m0 m1 ha good.c0 good.c1 (by have := good.e0; dsimp only at this; omega) (by have := good.e1; dsimp only at this; omega)
      (fun W => zin_any e l c p n q g _ W hf e0 e1 a0 a1 l0 l1 q0 q1) ?_
    intro a x0 x1
    have z := fun W => zroom_any ⟨E, L, C + a, P⟩ n m W (good_add good x0 x1) m1
    cases hr : room ⟨E, L, C + a, P⟩ n m
    · rw [hr] at z
      exact ⟨false, (fun h => nomatch h), z, fun W b hS => step_no b e l c p n m q g E L C P a W pre hf x0 x1 hS hr⟩
    · rw [hr] at z
      exact ⟨true, fun _ => room_lt hr, z, fun W b hS => step_yes b e l c p n m q g E L C P a W pre hf x0 x1 hS hr⟩
  · exact law3_no e l c p n m q g k w ok
end Go.Proofs.Qxb6628675a
