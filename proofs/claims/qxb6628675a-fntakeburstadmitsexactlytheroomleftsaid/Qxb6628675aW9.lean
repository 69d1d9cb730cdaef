import Derived.Test.Qxb6628675aW5
import Derived.Test.Qxb6628675aW8
namespace Go.Proofs.Qxb6628675a
open Go.RowKit

/-- A window in memory: its end, its length, its two counts. -/
structure Win (w : World) (b : Nat) (e l c p : Int) : Prop where
  c0 : w.cell? ⟨b, 0, none⟩ = some (.int .u64 (e % 1000000000))
  c1 : w.cell? ⟨b, 1, none⟩ = some (.int .i64 (e / 1000000000))
  c2 : w.cell? ⟨b, 2, none⟩ = some (.pointer none)
  c3 : w.cell? ⟨b, 3, none⟩ = some (.int .i64 l)
  c4 : w.cell? ⟨b, 4, none⟩ = some (.int .i64 c)
  c5 : w.cell? ⟨b, 5, none⟩ = some (.int .i64 p)
  free : ∀ j, w.frozen? ⟨b, j, none⟩ = false
  lt : b < w.heap.size

theorem past2 (w : World) (o1 o2 : Obj) (b o : Nat) (lt : b < w.heap.size) : (((w.alloc o1).alloc o2).drew).cell? ⟨b, o, none⟩ = w.cell? ⟨b, o, none⟩ := by
  show ((w.alloc o1).alloc o2).cell? ⟨b, o, none⟩ = _
  rw [World.cell?_alloc_past _ _ _ (by simp; omega), World.cell?_alloc_past _ _ _ lt]

set_option maxHeartbeats 1000000 in
theorem from_any (b : Nat) (e l c p x : Int) (w : World) (hW : Win w b e l c p) (HS : Hid (∀ W, Calls Try.prog 13 #[T e, T x] W fun r w' => r = .returned (.int .i64 (e - x)) ∧ Below W.heap.size W w')) :
    Calls Try.prog 18 #[.pointer (some ⟨b, 0, none⟩), T x] w fun r w' => r = .returned (agg4 (e - x) l c p) ∧ Below w.heap.size w w' := by
  obtain ⟨c0, c1, c2, c3, c4, c5, free, lt⟩ := hW
  have hbn : ¬ b = w.heap.size := by omega
  have hb1n : ¬ b = w.heap.size + 1 := by omega
  have hb2n : ¬ w.heap.size + 1 = b := by omega
  go_enter Try.func18, Try.ntmps18
  go_wp2_with fail
  go_region_held3 (fun W => W.cell? ⟨b, 0, none⟩ = some (.int .u64 (e % 1000000000)) ∧ W.cell? ⟨b, 1, none⟩ = some (.int .i64 (e / 1000000000)) ∧ W.cell? ⟨b, 2, none⟩ = some (.pointer none) ∧ W.cell? ⟨b, 3, none⟩ = some (.int .i64 l) ∧ W.cell? ⟨b, 4, none⟩ = some (.int .i64 c) ∧ W.cell? ⟨b, 5, none⟩ = some (.int .i64 p) ∧ W.cell? ⟨w.heap.size, 0, none⟩ = some (.int .u64 (x % 1000000000)) ∧ W.cell? ⟨w.heap.size, 1, none⟩ = some (.int .i64 (x / 1000000000)) ∧ W.cell? ⟨w.heap.size, 2, none⟩ = some (.pointer none))
    (go_keep)
    (first | (go_at_call 13; refine (HS.out _).mono ?_; rintro r w1 ⟨rfl, hb1⟩; have hcb : ∀ o, w1.cell? ⟨b, o, none⟩ = w.cell? ⟨b, o, none⟩ := (fun o => (hb1.cell (p := ⟨b, o, none⟩) (by simp; omega)).trans (past2 w _ _ b o lt)); have hcx : ∀ o, w1.cell? ⟨w.heap.size, o, none⟩ = _ := (fun o => hb1.cell (p := ⟨w.heap.size, o, none⟩) (by simp; omega)); have hcr : ∀ o, w1.cell? ⟨w.heap.size + 1, o, none⟩ = _ := (fun o => hb1.cell (p := ⟨w.heap.size + 1, o, none⟩) (by simp)); have hfr : ∀ o, w1.frozen? ⟨w.heap.size + 1, o, none⟩ = false := (fun o => (hb1.frozen (p := ⟨w.heap.size + 1, o, none⟩) (by simp)).trans (by simp))))
  all_goals
    have z1 := hb1.size
    simp at z1
    go_wp2
    refine bodyPost_ret (v := agg4 (e - x) l c p) (by simp [results, Try.results18, go_sem, hcr]) rfl ⟨rfl, ?_⟩
    exact ((((((Below.refl _ w).alloc (Nat.le_refl _) _).alloc (by simp) _).drew.trans (hb1.mono (by simp; omega))).setCell (by simp) _).setCell (by simp) _).setCell (by simp) _ |>.setCell (by simp) _
end Go.Proofs.Qxb6628675a
