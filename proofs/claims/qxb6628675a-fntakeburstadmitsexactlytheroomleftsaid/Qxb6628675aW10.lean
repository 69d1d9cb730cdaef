import Derived.Test.Qxb6628675aW9
namespace Go.Proofs.Qxb6628675a
open Go.RowKit

theorem Win.below {w w' : World} {b B : Nat} {e l c p : Int} (h : Win w b e l c p) (hb : Below B w w') (hB : b < B) : Win w' b e l c p :=
  ⟨(hb.cell (p := ⟨b, 0, none⟩) hB).trans h.c0, (hb.cell (p := ⟨b, 1, none⟩) hB).trans h.c1, (hb.cell (p := ⟨b, 2, none⟩) hB).trans h.c2, (hb.cell (p := ⟨b, 3, none⟩) hB).trans h.c3,
    (hb.cell (p := ⟨b, 4, none⟩) hB).trans h.c4, (hb.cell (p := ⟨b, 5, none⟩) hB).trans h.c5, fun j => (hb.frozen (p := ⟨b, j, none⟩) hB).trans (h.free j), Nat.lt_of_lt_of_le h.lt hb.size⟩

abbrev limV (mx ll alg : Int) : Value := .agg #[.int .i64 mx, .int .i64 ll, .int .i64 alg]

theorem grown_below {w X : World} {b : Nat} (h : Below w.heap.size w X) : w.grownBy X (some b) := ⟨h.os, h.tape, h.output, h.size, fun k hk _ => h.block k hk⟩

theorem win_set3 {X : World} {b : Nat} {e l c p L C P : Int} (h : Win X b e l c p) : Win (((X.setCell ⟨b, 3, none⟩ (.int .i64 L)).setCell ⟨b, 4, none⟩ (.int .i64 C)).setCell ⟨b, 5, none⟩ (.int .i64 P)) b e L C P := by
  refine ⟨?_, ?_, ?_, ?_, ?_, ?_, fun j => ?_, ?_⟩
  · rw [set_other (by simp), set_other (by simp), set_other (by simp)]; exact h.c0
  · rw [set_other (by simp), set_other (by simp), set_other (by simp)]; exact h.c1
  · rw [set_other (by simp), set_other (by simp), set_other (by simp)]; exact h.c2
  · rw [set_other (by simp), set_other (by simp)]; exact World.cell?_setCell_same _ _ _ h.c3
  · rw [set_other (by simp)]; exact World.cell?_setCell_same _ _ _ ((set_other (by simp)).trans h.c4)
  · exact World.cell?_setCell_same _ _ _ ((set_other (by simp)).trans ((set_other (by simp)).trans h.c5))
  · rw [World.frozen?_setCell, World.frozen?_setCell, World.frozen?_setCell]; exact h.free j
  · have := h.lt; simp [World.setCell]; omega

theorem win_setEnd {X : World} {b : Nat} {e l c p e' : Int} (h : Win X b e l c p) : Win (((X.setCell ⟨b, 0, none⟩ (.int .u64 (e' % 1000000000))).setCell ⟨b, 1, none⟩ (.int .i64 (e' / 1000000000))).setCell ⟨b, 2, none⟩ (.pointer none)) b e' l c p := by
  refine ⟨?_, ?_, ?_, ?_, ?_, ?_, fun j => ?_, ?_⟩
  · rw [set_other (by simp), set_other (by simp)]; exact World.cell?_setCell_same _ _ _ h.c0
  · rw [set_other (by simp)]; exact World.cell?_setCell_same _ _ _ ((set_other (by simp)).trans h.c1)
  · exact World.cell?_setCell_same _ _ _ ((set_other (by simp)).trans ((set_other (by simp)).trans h.c2))
  · rw [set_other (by simp), set_other (by simp), set_other (by simp)]; exact h.c3
  · rw [set_other (by simp), set_other (by simp), set_other (by simp)]; exact h.c4
  · rw [set_other (by simp), set_other (by simp), set_other (by simp)]; exact h.c5
  · rw [World.frozen?_setCell, World.frozen?_setCell, World.frozen?_setCell]; exact h.free j
  · have := h.lt; simp [World.setCell]; omega

set_option maxHeartbeats 1000000 in
theorem wtake_no (b : Nat) (e l c p x mx ll alg : Int) (w : World)
    (HFr : Hid (∀ W, Below w.heap.size w W → Calls Try.prog 18 #[.pointer (some ⟨b, 0, none⟩), T x] W fun r w' => r = .returned (agg4 (e - x) l c p) ∧ Below W.heap.size W w'))
    (HTk : Hid (∀ W fb, Frm W fb (e - x) l c p → (∀ j, W.frozen? ⟨fb, j, none⟩ = false) → Calls Try.prog 19 #[.pointer (some ⟨fb, 0, none⟩), .int .i64 0, limV mx ll alg] W fun r w' => r = .returned (.bool false) ∧ Below W.heap.size W w')) :
    Calls Try.prog 11 #[.pointer (some ⟨b, 0, none⟩), T x, limV mx ll alg] w fun r w' => r = .returned (.bool false) ∧ Below w.heap.size w w' := by
  go_enter Try.func11, Try.ntmps11
  go_wp2_with fail
  refine (HFr.out _ (((Below.refl _ _).alloc (Nat.le_refl _) _).alloc (by simp) _)).mono ?_
  rintro r w1 ⟨rfl, hb1⟩
  have z1 := hb1.size
  simp at z1
  have hz0 : w.heap.size < w1.heap.size := by omega
  have hz1 : w.heap.size + 1 < w1.heap.size := by omega
  have hc1 : ∀ o, w1.cell? ⟨w.heap.size, o, none⟩ = _ := fun o => hb1.cell (p := ⟨w.heap.size, o, none⟩) (by simp; omega)
  have hc2 : ∀ o, w1.cell? ⟨w.heap.size + 1, o, none⟩ = _ := fun o => hb1.cell (p := ⟨w.heap.size + 1, o, none⟩) (by simp)
  have hB : Below w.heap.size w w1 := (((Below.refl _ _).alloc (Nat.le_refl _) _).alloc (by simp) _).trans (hb1.mono (by simp; omega))
  clear hb1
  go_wp2_with fail
  refine (HTk.out _ w1.heap.size ⟨?_, ?_, ?_, ?_, ?_⟩ ?_).mono ?_
  · simp
  · simp
  · simp
  · simp
  · simp
  · intro j; simp
  rintro r w2 ⟨rfl, hb2⟩
  go_wp2_with fail
  go_ret
  exact ⟨rfl, (hB.alloc (by omega) _).trans (hb2.mono (by simp; omega))⟩

set_option maxHeartbeats 1000000 in
theorem wtake_same (b : Nat) (e l c p x L' C' P' mx ll alg : Int) (w : World) (hW : Win w b e l c p)
    (HFr : Hid (∀ W, Below w.heap.size w W → Calls Try.prog 18 #[.pointer (some ⟨b, 0, none⟩), T x] W fun r w' => r = .returned (agg4 (e - x) l c p) ∧ Below W.heap.size W w'))
    (HTk : Hid (∀ W fb, Frm W fb (e - x) l c p → (∀ j, W.frozen? ⟨fb, j, none⟩ = false) → Calls Try.prog 19 #[.pointer (some ⟨fb, 0, none⟩), .int .i64 0, limV mx ll alg] W fun r w' => r = .returned (.bool true) ∧ Frm w' fb (e - x) L' (C' + 1) P' ∧ (∀ j, w'.frozen? ⟨fb, j, none⟩ = false) ∧ W.grownBy w' (some fb))) :
    Calls Try.prog 11 #[.pointer (some ⟨b, 0, none⟩), T x, limV mx ll alg] w fun r w' => r = .returned (.bool true) ∧ Win w' b e L' (C' + 1) P' ∧ w.grownBy w' (some b) := by
  have hlt := hW.lt
  have HW : Hid (Win w b e l c p) := hW
  clear hW
  go_enter Try.func11, Try.ntmps11
  go_wp2_with fail
  refine (HFr.out _ (((Below.refl _ _).alloc (Nat.le_refl _) _).alloc (by simp) _)).mono ?_
  rintro r w1 ⟨rfl, hb1⟩
  have z1 := hb1.size
  simp at z1
  have hz0 : w.heap.size < w1.heap.size := by omega
  have hz1 : w.heap.size + 1 < w1.heap.size := by omega
  have hc1 : ∀ o, w1.cell? ⟨w.heap.size, o, none⟩ = _ := fun o => hb1.cell (p := ⟨w.heap.size, o, none⟩) (by simp; omega)
  have hc2 : ∀ o, w1.cell? ⟨w.heap.size + 1, o, none⟩ = _ := fun o => hb1.cell (p := ⟨w.heap.size + 1, o, none⟩) (by simp)
  have hB : Below w.heap.size w w1 := (((Below.refl _ _).alloc (Nat.le_refl _) _).alloc (by simp) _).trans (hb1.mono (by simp; omega))
  clear hb1
  go_wp2_with fail
  refine (HTk.out _ w1.heap.size ⟨?_, ?_, ?_, ?_, ?_⟩ ?_).mono ?_
  · simp
  · simp
  · simp
  · simp
  · simp
  · intro j; simp
  rintro r w2 ⟨rfl, hF, hff, hg⟩
  have hB2 : Below w.heap.size w w2 := (hB.alloc (by omega) _).grown hg (by simp; omega) (fun k hk => by cases hk; omega)
  have hW2 := HW.out.below hB2 hlt
  obtain ⟨f0, f1, f2, f3, flt⟩ := hF
  obtain ⟨w0, w1c, w2c, w3, w4, w5, free, wlt⟩ := hW2
  clear hc1 hc2 hff hg
  go_wp2_with fail
  clear f0 f1 f2 f3 flt w0 w1c w2c w3 w4 w5 free wlt
  go_ret
  exact ⟨rfl, win_set3 (HW.out.below hB2 hlt), grown_set (grown_set (grown_set (grown_below hB2)))⟩

set_option maxHeartbeats 1000000 in
theorem wtake_new (b : Nat) (e l c p x E' L' C' P' mx ll alg : Int) (w : World) (hW : Win w b e l c p)
    (HFr : Hid (∀ W, Below w.heap.size w W → Calls Try.prog 18 #[.pointer (some ⟨b, 0, none⟩), T x] W fun r w' => r = .returned (agg4 (e - x) l c p) ∧ Below W.heap.size W w'))
    (HTk : Hid (∀ W fb, Frm W fb (e - x) l c p → (∀ j, W.frozen? ⟨fb, j, none⟩ = false) → Calls Try.prog 19 #[.pointer (some ⟨fb, 0, none⟩), .int .i64 0, limV mx ll alg] W fun r w' => r = .returned (.bool true) ∧ Frm w' fb E' L' (C' + 1) P' ∧ (∀ j, w'.frozen? ⟨fb, j, none⟩ = false) ∧ W.grownBy w' (some fb)))
    (hne : (E' != e - x) = true) (HAd : Hid (∀ W, Calls Try.prog 10 #[T x, .int .i64 E'] W fun r w' => r = .returned (T (x + E')) ∧ Below W.heap.size W w')) :
    Calls Try.prog 11 #[.pointer (some ⟨b, 0, none⟩), T x, limV mx ll alg] w fun r w' => r = .returned (.bool true) ∧ Win w' b (x + E') L' (C' + 1) P' ∧ w.grownBy w' (some b) := by
  have hlt := hW.lt
  have HW : Hid (Win w b e l c p) := hW
  clear hW
  go_enter Try.func11, Try.ntmps11
  go_wp2_with fail
  refine (HFr.out _ (((Below.refl _ _).alloc (Nat.le_refl _) _).alloc (by simp) _)).mono ?_
  rintro r w1 ⟨rfl, hb1⟩
  have z1 := hb1.size
  simp at z1
  have hz0 : w.heap.size < w1.heap.size := by omega
  have hz1 : w.heap.size + 1 < w1.heap.size := by omega
  have hc1 : ∀ o, w1.cell? ⟨w.heap.size, o, none⟩ = _ := fun o => hb1.cell (p := ⟨w.heap.size, o, none⟩) (by simp; omega)
  have hc2 : ∀ o, w1.cell? ⟨w.heap.size + 1, o, none⟩ = _ := fun o => hb1.cell (p := ⟨w.heap.size + 1, o, none⟩) (by simp)
  have hB : Below w.heap.size w w1 := (((Below.refl _ _).alloc (Nat.le_refl _) _).alloc (by simp) _).trans (hb1.mono (by simp; omega))
  clear hb1
  go_wp2_with fail
  refine (HTk.out _ w1.heap.size ⟨?_, ?_, ?_, ?_, ?_⟩ ?_).mono ?_
  · simp
  · simp
  · simp
  · simp
  · simp
  · intro j; simp
  rintro r w2 ⟨rfl, hF, hff, hg⟩
  have hB2 : Below w.heap.size w w2 := (hB.alloc (by omega) _).grown hg (by simp; omega) (fun k hk => by cases hk; omega)
  have hW2 := HW.out.below hB2 hlt
  obtain ⟨f0, f1, f2, f3, flt⟩ := hF
  obtain ⟨w0, w1c, w2c, w3, w4, w5, free, wlt⟩ := hW2
  have n0 : ∀ o, w2.cell? ⟨w.heap.size, o, none⟩ = _ := fun o => ((World.cell?_of_block (hg.block w.heap.size (by simp; omega) (by simp; omega))).trans (World.cell?_alloc_past _ _ _ hz0)).trans (hc1 o)
  clear hc1 hc2 hff hg
  go_wp2_with fail
  refine (HAd.out _).mono ?_
  rintro r w3' ⟨rfl, hb3⟩
  have hB3 : Below w.heap.size w w3' := hB2.trans (hb3.mono (by omega))
  have hW3 := HW.out.below hB3 hlt
  have f0' := (hb3.cell (p := ⟨w1.heap.size, 0, none⟩) flt).trans f0
  have f1' := (hb3.cell (p := ⟨w1.heap.size, 1, none⟩) flt).trans f1
  have f2' := (hb3.cell (p := ⟨w1.heap.size, 2, none⟩) flt).trans f2
  have f3' := (hb3.cell (p := ⟨w1.heap.size, 3, none⟩) flt).trans f3
  have hnb : ¬ b = w1.heap.size := by omega
  have hnb' : ¬ w1.heap.size = b := by omega
  clear n0 f0 f1 f2 f3 w0 w1c w2c w3 w4 w5 free wlt
  obtain ⟨w0, w1c, w2c, w3, w4, w5, free, wlt⟩ := hW3
  go_wp2_with fail
  clear f0' f1' f2' f3' flt w0 w1c w2c w3 w4 w5 free wlt
  go_ret
  exact ⟨rfl, win_set3 (win_setEnd (HW.out.below hB3 hlt)), grown_set (grown_set (grown_set (grown_set (grown_set (grown_set (grown_below hB3))))))⟩

end Go.Proofs.Qxb6628675a
