import Derived.Test.Qxb6628675aW4
namespace Go.Proofs.Qxb6628675a
open Go.RowKit

theorem set_other {X : World} {a c : Addr} {v : Value} (h : ¬ a = c) : (X.setCell a v).cell? c = X.cell? c := World.cell?_setCell_other _ _ _ _ h

theorem grown_set {w X : World} {b j : Nat} {v : Value} (h : w.grownBy X (some b)) : w.grownBy (X.setCell ⟨b, j, none⟩ v) (some b) :=
  ⟨h.os, h.tape, h.output, by have := h.size; simp [World.setCell]; omega, fun k hk hne => by
    rw [Below.heap_setCell _ _ _ _ (by intro e; exact hne (by rw [e]))]; exact h.block k hk hne⟩

set_option maxHeartbeats 1000000 in
theorem take_no (b : Nat) (E' L' C' P' mx ll alg : Int) (w : World)
    (HAt : Hid (∀ W, Below w.heap.size w W → Calls Try.prog 24 #[.pointer (some ⟨b, 0, none⟩), .int .i64 0, .agg #[.int .i64 mx, .int .i64 ll, .int .i64 alg]] W fun e w' => e = .returned (agg4 E' L' C' P') ∧ Below W.heap.size W w'))
    (p0 : 0 ≤ P') (p1 : P' ≤ 9223372036854775807) (hEL : Hid (P' ≠ 0 → 0 ≤ E' ∧ E' ≤ L' ∧ 0 < L' ∧ L' ≤ 9223372036854775807)) (m0 : 1 ≤ mx) (m1 : mx ≤ 9223372036854775807) (k0 : 0 ≤ C') (k1 : C' ≤ 9223372036854775807)
    (hno : mx - C' ≤ carry P' E' L') :
    Calls Try.prog 19 #[.pointer (some ⟨b, 0, none⟩), .int .i64 0, .agg #[.int .i64 mx, .int .i64 ll, .int .i64 alg]] w fun e w' => e = .returned (.bool false) ∧ Below w.heap.size w w' := by
  go_enter Try.func19, Try.ntmps19
  go_wp2_with fail
  refine (HAt.out _ ((Below.refl _ _).alloc (Nat.le_refl _) _)).mono ?_
  rintro e w1 ⟨rfl, hb1⟩
  have hc : ∀ o, w1.cell? ⟨w.heap.size, o, none⟩ = _ := fun o => hb1.cell (p := ⟨w.heap.size, o, none⟩) (by simp)
  have z1 : w.heap.size < w1.heap.size := by have := hb1.size; simp at this; omega
  have hB : Below w.heap.size w w1 := ((Below.refl _ _).alloc (Nat.le_refl _) _).trans (hb1.mono (by simp))
  clear hb1
  generalize hcr : carry P' E' L' = cr at *
  have HC : Hid (carry P' E' L' = cr) := hcr
  clear hcr
  go_wp2
  go_quiet ((go_at_call 25; refine Calls.quiet_of (HC.out ▸ carried_any w1.heap.size P' E' L' _ p0 p1 hEL.out ?_ ?_ ?_) <;> simp))
  go_wp2
  go_ret
  exact ⟨rfl, below_drewN (hB.alloc (by omega) _) _⟩

set_option maxHeartbeats 1000000 in
theorem take_yes (b : Nat) (E L C P E' L' C' P' mx ll alg : Int) (w : World) (hF : Frm w b E L C P) (hfz : ∀ j, w.frozen? ⟨b, j, none⟩ = false)
    (HAt : Hid (∀ W, Below w.heap.size w W → Calls Try.prog 24 #[.pointer (some ⟨b, 0, none⟩), .int .i64 0, .agg #[.int .i64 mx, .int .i64 ll, .int .i64 alg]] W fun e w' => e = .returned (agg4 E' L' C' P') ∧ Below W.heap.size W w'))
    (p0 : 0 ≤ P') (p1 : P' ≤ 9223372036854775807) (hEL : Hid (P' ≠ 0 → 0 ≤ E' ∧ E' ≤ L' ∧ 0 < L' ∧ L' ≤ 9223372036854775807)) (m0 : 1 ≤ mx) (m1 : mx ≤ 9223372036854775807) (k0 : 0 ≤ C') (k1 : C' ≤ 9223372036854775807)
    (hcr0 : 0 ≤ carry P' E' L') (hyes : carry P' E' L' < mx - C') :
    Calls Try.prog 19 #[.pointer (some ⟨b, 0, none⟩), .int .i64 0, .agg #[.int .i64 mx, .int .i64 ll, .int .i64 alg]] w fun e w' => e = .returned (.bool true) ∧ Frm w' b E' L' (C' + 1) P' ∧ (∀ j, w'.frozen? ⟨b, j, none⟩ = false) ∧ w.grownBy w' (some b) := by
  obtain ⟨c0, c1, c2, c3, lt⟩ := hF
  go_enter Try.func19, Try.ntmps19
  go_wp2_with fail
  refine (HAt.out _ ((Below.refl _ _).alloc (Nat.le_refl _) _)).mono ?_
  rintro e w1 ⟨rfl, hb1⟩
  have hc : ∀ o, w1.cell? ⟨w.heap.size, o, none⟩ = _ := fun o => hb1.cell (p := ⟨w.heap.size, o, none⟩) (by simp)
  have z1 : w.heap.size < w1.heap.size := by have := hb1.size; simp at this; omega
  have hB : Below w.heap.size w w1 := ((Below.refl _ _).alloc (Nat.le_refl _) _).trans (hb1.mono (by simp))
  clear hb1
  rw [← hB.cell (p := ⟨b, 0, none⟩) lt] at c0
  rw [← hB.cell (p := ⟨b, 1, none⟩) lt] at c1
  rw [← hB.cell (p := ⟨b, 2, none⟩) lt] at c2
  rw [← hB.cell (p := ⟨b, 3, none⟩) lt] at c3
  have hz : ∀ j, w1.frozen? ⟨b, j, none⟩ = false := fun j => (hB.frozen (p := ⟨b, j, none⟩) lt).trans (hfz j)
  clear hfz
  have lt1 : b < w1.heap.size := by omega
  generalize hcr : carry P' E' L' = cr at *
  have HC : Hid (carry P' E' L' = cr) := hcr
  clear hcr
  go_wp2
  go_quiet ((go_at_call 25; refine Calls.quiet_of (HC.out ▸ carried_any w1.heap.size P' E' L' _ p0 p1 hEL.out ?_ ?_ ?_) <;> simp))
  go_wp2
  have hX : Below w.heap.size w (((w1.alloc (.cells #[.int .i64 E', .int .i64 L', .int .i64 C', .int .i64 P'] 49)).drewN nq).setCell ⟨w1.heap.size, 2, none⟩ (.int .i64 (C' + 1))) :=
    (below_drewN (hB.alloc (by omega) _) _).setCell (by simp; omega) _
  clear HC
  go_ret
  generalize (((w1.alloc (.cells #[.int .i64 E', .int .i64 L', .int .i64 C', .int .i64 P'] 49)).drewN nq).setCell ⟨w1.heap.size, 2, none⟩ (.int .i64 (C' + 1))) = X at *
  have x0 := (hX.cell (p := ⟨b, 0, none⟩) lt).trans ((hB.cell (p := ⟨b, 0, none⟩) lt).symm.trans c0)
  have x1 := (hX.cell (p := ⟨b, 1, none⟩) lt).trans ((hB.cell (p := ⟨b, 1, none⟩) lt).symm.trans c1)
  have x2 := (hX.cell (p := ⟨b, 2, none⟩) lt).trans ((hB.cell (p := ⟨b, 2, none⟩) lt).symm.trans c2)
  have x3 := (hX.cell (p := ⟨b, 3, none⟩) lt).trans ((hB.cell (p := ⟨b, 3, none⟩) lt).symm.trans c3)
  have xf : ∀ j, X.frozen? ⟨b, j, none⟩ = false := fun j => (hX.frozen (p := ⟨b, j, none⟩) lt).trans ((hB.frozen (p := ⟨b, j, none⟩) lt).symm.trans (hz j))
  have xg : w.grownBy X (some b) := ⟨hX.os, hX.tape, hX.output, hX.size, fun k hk _ => hX.block k hk⟩
  refine ⟨rfl, ⟨?_, ?_, ?_, ?_, ?_⟩, fun j => ?_, grown_set (grown_set (grown_set (grown_set xg)))⟩
  · rw [set_other (by simp), set_other (by simp), set_other (by simp)]; exact World.cell?_setCell_same _ _ _ x0
  · rw [set_other (by simp), set_other (by simp)]; exact World.cell?_setCell_same _ _ _ ((set_other (by simp)).trans x1)
  · rw [set_other (by simp)]; exact World.cell?_setCell_same _ _ _ ((set_other (by simp)).trans ((set_other (by simp)).trans x2))
  · exact World.cell?_setCell_same _ _ _ ((set_other (by simp)).trans ((set_other (by simp)).trans ((set_other (by simp)).trans x3)))
  · have := hX.size; simp [World.setCell]; omega
  · rw [World.frozen?_setCell, World.frozen?_setCell, World.frozen?_setCell, World.frozen?_setCell]; exact xf j

end Go.Proofs.Qxb6628675a
