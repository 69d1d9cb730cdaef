import Derived.Test.Qxb6628675aW17
import Derived.Test.Qxb6628675aW18
namespace Go.Proofs.Qxb6628675a
open Go.RowKit

theorem room_lt {f : Fr} {n mx : Int} (h : room f n mx = true) : f.C < mx := by
  unfold room at h
  exact (of_decide_eq_true h).1

theorem ztake_ref2 (b : Nat) (e l c p x mx ll alg : Int) (f : Fr) (w : World) (hW : Win w b e l c p) (pre : Pre e l c p x mx ll) (hf : inW e l c p x ll alg = f) (hr : room f x mx = false) :
    Calls Try.prog 7 #[.pointer (some ⟨b, 0, none⟩), .int .i64 x, .int .i64 mx, .int .i64 ll, .int .i64 alg] w fun r w' => r = .returned (.bool false) ∧ Win w' b e l c p ∧ w.grownBy w' (some b) := by
  subst hf
  refine (ztake_ref b e l c p x mx ll alg w hW pre hr).mono ?_
  rintro r w' ⟨rfl, hb⟩
  exact ⟨rfl, hW.below hb hW.lt, grown_below hb⟩

theorem law4_any (e l c p n1 m1 q1 g1 n2 m2 q2 g2 : Int) (w : World) (c1 : c ≤ 9223372036854775807) (p1 : p ≤ 9223372036854775807) (k1 : m1 ≤ 9223372036854775807) (k2 : m2 ≤ 9223372036854775807) :
    Calls Try.prog 4 #[.int .i64 e, .int .i64 l, .int .i64 c, .int .i64 p, .int .i64 n1, .int .i64 m1, .int .i64 q1, .int .i64 g1, .int .i64 n2, .int .i64 m2, .int .i64 q2, .int .i64 g2] w fun e w' => e = .returned (.bool true) ∧ Below w.heap.size w w' := by
  by_cases ok : Ok4 e l c p n1 m1 q1 n2 m2 q2
  · obtain ⟨e0, e1, a0, a1, b0, b1, l0, l1, h0, h1, r0, r1, c0, p0, m0, k0, ha, hb⟩ := ok
    have pre1 : Pre e l c p n1 m1 q1 := ⟨e0, by omega, a0, a1, l0, l1, h0, h1, c0, c1, p0, p1, m0, k1, ha⟩
    have pre2 : Pre e l c p n2 m2 q2 := ⟨e0, by omega, b0, b1, l0, l1, r0, r1, c0, c1, p0, p1, k0, k2, hb⟩
    have good1 := pre1.good g1
    have good2 := pre2.good g2
    generalize hf1 : inW e l c p n1 q1 g1 = f1 at good1
    generalize hf2 : inW e l c p n2 q2 g2 = f2 at good2
    have i1 := fun W => zin_any e l c p n1 q1 g1 f1 W hf1 e0 e1 a0 a1 l0 l1 h0 h1
    have i2 := fun W => zin_any e l c p n2 q2 g2 f2 W hf2 e0 e1 b0 b1 l0 l1 r0 r1
    have z1 := fun W => zroom_any f1 n1 m1 W good1 k1
    have z2 := fun W => zroom_any f2 n2 m2 W good2 k2
    cases hr1 : room f1 n1 m1
    · rw [hr1] at z1
      have t1 : ∀ W b, Win W b e l c p → Calls Try.prog 7 #[.pointer (some ⟨b, 0, none⟩), .int .i64 n1, .int .i64 m1, .int .i64 q1, .int .i64 g1] W fun r w' => r = .returned (.bool false) ∧ Below W.heap.size W w' :=
        fun W b hW => ztake_ref b e l c p n1 m1 q1 g1 W hW pre1 (by rw [hf1]; exact hr1)
      cases hr2 : room f2 n2 m2
      · rw [hr2] at z2
        exact law4_rr e l c p n1 m1 q1 g1 n2 m2 q2 g2 f1.E f1.L f1.C f1.P f2.E f2.L f2.C f2.P w e0 e1 a0 a1 b0 b1 l0 l1 h0 h1 r0 r1 c0 p0 m0 k0 ha hb
          i1 z1 t1 i2 z2 (fun W b hW => ztake_ref2 b e l c p n2 m2 q2 g2 f2 W hW pre2 hf2 hr2)
      · rw [hr2] at z2
        have := room_lt hr2
        exact law4_ra e l c p n1 m1 q1 g1 n2 m2 q2 g2 f1.E f1.L f1.C f1.P f2.E f2.L f2.C f2.P w e0 e1 a0 a1 b0 b1 l0 l1 h0 h1 r0 r1 c0 p0 m0 k0 ha hb
          good2.c0 (by omega) (by have := good2.e0; omega) (by have := good2.e1; omega)
          i1 z1 t1 i2 z2 (fun W b hW => ztake_adm b e l c p n2 m2 q2 g2 f2 W hW pre2 hf2 hr2)
    · rw [hr1] at z1
      have := room_lt hr1
      exact law4_yes e l c p n1 m1 q1 g1 n2 m2 q2 g2 f1.E f1.L f1.C f1.P w e0 e1 a0 a1 b0 b1 l0 l1 h0 h1 r0 r1 c0 p0 m0 k0 ha hb
        good1.c0 (by omega) (by have := good1.e0; omega) (by have := good1.e1; omega)
        i1 z1 (fun W b hW => ztake_adm b e l c p n1 m1 q1 g1 f1 W hW pre1 hf1 hr1)
  · exact law4_no e l c p n1 m1 q1 g1 n2 m2 q2 g2 w ok
end Go.Proofs.Qxb6628675a
