import Derived.Test.Qxb6628675aW14
namespace Go.Proofs.Qxb6628675a
open Go.RowKit

/-- The guards of the second law let the input pass. -/
structure Ok4 (e l c p n1 m1 q1 n2 m2 q2 : Int) : Prop where
  e0 : -4611686018427387904 < e
  e1 : e < 4611686018427387904
  a0 : -4611686018427387904 < n1
  a1 : n1 < 4611686018427387904
  b0 : -4611686018427387904 < n2
  b1 : n2 < 4611686018427387904
  l0 : 0 ≤ l
  l1 : l < 4611686018427387904
  q0 : 1 ≤ q1
  q1 : q1 < 4611686018427387904
  r0 : 1 ≤ q2
  r1 : q2 < 4611686018427387904
  c0 : 0 ≤ c
  p0 : 0 ≤ p
  m0 : 1 ≤ m1
  k0 : 1 ≤ m2
  ha : n1 < e → e - n1 ≤ l
  hb : n2 < e → e - n2 ≤ l

set_option maxRecDepth 20000 in
set_option maxHeartbeats 4000000 in
theorem law4_no (e l c p n1 m1 q1 g1 n2 m2 q2 g2 : Int) (w : World) (hno : Hid (¬ Ok4 e l c p n1 m1 q1 n2 m2 q2)) :
    Calls Try.prog 4 #[.int .i64 e, .int .i64 l, .int .i64 c, .int .i64 p, .int .i64 n1, .int .i64 m1, .int .i64 q1, .int .i64 g1, .int .i64 n2, .int .i64 m2, .int .i64 q2, .int .i64 g2] w fun e w' => e = .returned (.bool true) ∧ Below w.heap.size w w' := by
  go_enter Try.func4, Try.ntmps4
  go_wp2_with fail
  all_goals first
    | (go_ret; exact ⟨rfl, Below.refl _ _⟩)
    | (exfalso; refine hno.out ⟨?_, ?_, ?_, ?_, ?_, ?_, ?_, ?_, ?_, ?_, ?_, ?_, ?_, ?_, ?_, ?_, ?_, ?_⟩ <;> omega)
end Go.Proofs.Qxb6628675a
