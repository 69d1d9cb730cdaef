import Derived.Test.Qxb6628675aW10
import Derived.Test.Qxb6628675aModel
namespace Go.Proofs.Qxb6628675a
open Go.RowKit

theorem Frm.below {w w' : World} {b B : Nat} {E L C P : Int} (h : Frm w b E L C P) (hb : Below B w w') (hB : b < B) : Frm w' b E L C P :=
  ⟨(hb.cell (p := ⟨b, 0, none⟩) hB).trans h.c0, (hb.cell (p := ⟨b, 1, none⟩) hB).trans h.c1, (hb.cell (p := ⟨b, 2, none⟩) hB).trans h.c2, (hb.cell (p := ⟨b, 3, none⟩) hB).trans h.c3, Nat.lt_of_lt_of_le h.lt hb.size⟩

theorem at_in (fb : Nat) (e l c p x mx ll alg : Int) (W : World) (pre : Pre e l c p x mx ll) (hF : Frm W fb (e - x) l c p) :
    ∀ V, Below W.heap.size W V → Calls Try.prog 24 #[.pointer (some ⟨fb, 0, none⟩), .int .i64 0, limV mx ll alg] V fun r w' => r = .returned (agg4 ((inW e l c p x ll alg).E - x) (inW e l c p x ll alg).L (inW e l c p x ll alg).C (inW e l c p x ll alg).P) ∧ Below V.heap.size V w' := by
  intro V hV
  obtain ⟨e0, e1, n0, n1, l0, l1, q0, q1, c0, c1, p0, p1, m0, m1, hl⟩ := pre
  have := at_any fb (e - x) l c p mx ll alg V (hF.below hV hF.lt) (by omega) (by omega) (by omega) (by omega) (by omega)
  rw [frAt_inW] at this
  exact this

theorem from_in (b : Nat) (e l c p x mx ll : Int) (w : World) (hW : Win w b e l c p) (pre : Pre e l c p x mx ll) :
    ∀ W, Below w.heap.size w W → Calls Try.prog 18 #[.pointer (some ⟨b, 0, none⟩), T x] W fun r w' => r = .returned (agg4 (e - x) l c p) ∧ Below W.heap.size W w' := by
  intro W hB
  refine from_any b e l c p x W (hW.below hB hW.lt) ?_
  intro V
  obtain ⟨e0, e1, n0, n1, l0, l1, q0, q1, c0, c1, p0, p1, m0, m1, hl⟩ := pre
  exact sub_any e x V (by omega) (by omega) (by omega) (by omega) (by omega) (by omega)

/-- A refusal. -/
theorem take_ref (b : Nat) (e l c p x mx ll alg : Int) (w : World) (hW : Win w b e l c p) (pre : Pre e l c p x mx ll) (hr : room (inW e l c p x ll alg) x mx = false) :
    Calls Try.prog 11 #[.pointer (some ⟨b, 0, none⟩), T x, limV mx ll alg] w fun r w' => r = .returned (.bool false) ∧ Below w.heap.size w w' := by
  have g := pre.good alg
  have hi := room_iff (mx := mx) g
  have hno : mx - (inW e l c p x ll alg).C ≤ carry (inW e l c p x ll alg).P ((inW e l c p x ll alg).E - x) (inW e l c p x ll alg).L := by
    rcases Int.lt_or_le (carry (inW e l c p x ll alg).P ((inW e l c p x ll alg).E - x) (inW e l c p x ll alg).L) (mx - (inW e l c p x ll alg).C) with h | h
    · rw [hi.1 h] at hr; cases hr
    · exact h
  refine wtake_no b e l c p x mx ll alg w (from_in b e l c p x mx ll w hW pre) ?_
  intro W fb hF _
  have hd0 := g.d0
  have hd1 := g.d1
  have hl1 := g.l1
  exact take_no fb _ _ _ _ mx ll alg W (at_in fb e l c p x mx ll alg W pre hF) g.p0 g.p1 (fun _ => ⟨by omega, by omega, by omega, by omega⟩) pre.m0 pre.m1 g.c0 g.c1 hno

/-- An admission. -/
theorem take_adm (b : Nat) (e l c p x mx ll alg : Int) (w : World) (hW : Win w b e l c p) (pre : Pre e l c p x mx ll) (hr : room (inW e l c p x ll alg) x mx = true) :
    Calls Try.prog 11 #[.pointer (some ⟨b, 0, none⟩), T x, limV mx ll alg] w fun r w' => r = .returned (.bool true) ∧ Win w' b (inW e l c p x ll alg).E (inW e l c p x ll alg).L ((inW e l c p x ll alg).C + 1) (inW e l c p x ll alg).P ∧ w.grownBy w' (some b) := by
  have g := pre.good alg
  have hyes := (room_iff (mx := mx) g).2 hr
  have hd0 := g.d0
  have hd1 := g.d1
  have hl1 := g.l1
  have he0 := g.e0
  have he1 := g.e1
  have hcb := carry_bd g.p0 (show 0 ≤ (inW e l c p x ll alg).E - x by omega) hd1 (by omega)
  have hTk : ∀ W fb, Frm W fb (e - x) l c p → (∀ j, W.frozen? ⟨fb, j, none⟩ = false) → Calls Try.prog 19 #[.pointer (some ⟨fb, 0, none⟩), .int .i64 0, limV mx ll alg] W fun r w' => r = .returned (.bool true) ∧ Frm w' fb ((inW e l c p x ll alg).E - x) (inW e l c p x ll alg).L ((inW e l c p x ll alg).C + 1) (inW e l c p x ll alg).P ∧ (∀ j, w'.frozen? ⟨fb, j, none⟩ = false) ∧ W.grownBy w' (some fb) := by
    intro W fb hF hz
    exact take_yes fb _ _ _ _ _ _ _ _ mx ll alg W hF hz (at_in fb e l c p x mx ll alg W pre hF) g.p0 g.p1 (fun _ => ⟨by omega, by omega, by omega, by omega⟩) pre.m0 pre.m1 g.c0 g.c1 hcb.1 hyes
  by_cases hE : (inW e l c p x ll alg).E = e
  · rw [hE] at hTk ⊢
    exact wtake_same b e l c p x _ _ _ mx ll alg w hW (from_in b e l c p x mx ll w hW pre) hTk
  · have := wtake_new b e l c p x _ _ _ _ mx ll alg w hW (from_in b e l c p x mx ll w hW pre) hTk (by simp; omega) (fun V => add_any x _ V (by have := pre.n0; omega) (by have := pre.n1; omega) (by have := pre.n1; omega) (by have := pre.n0; omega))
    rwa [show x + ((inW e l c p x ll alg).E - x) = (inW e l c p x ll alg).E from by omega] at this

end Go.Proofs.Qxb6628675a
