import Derived.Test.Qxb6628717aW5
import Derived.Deep.DeepCutAuto
import Derived.Deep.OwnRows
import Derived.Laws.CopyOwn
import Derived.Laws.OwnMore
import Derived.WalkSpells
namespace Go.Proofs.Qxb6628717a
open Go.RowKit Go.Deep

theorem info3 : (Try.prog.info? 3).map (fun i => (i.zero, i.size, i.bytes)) = some (some (.int .i64 0), 1, 8) := by kernel_rfl
theorem info5 : (Try.prog.info? 5).map (fun i => (i.zero, i.size, i.bytes)) = some (some (.int .u8 0), 1, 1) := by kernel_rfl
theorem size3 : (Try.prog.info? 3).map (·.size) = some 1 := by kernel_rfl
theorem size5 : (Try.prog.info? 5).map (·.size) = some 1 := by kernel_rfl

/-- The numbers of a slice that came in. -/
def Arg (w : World) (bo : Option Addr) (n cap : Nat) (k : IntKind) (f : Nat → Int) : Prop :=
  (bo = none ∧ n = 0 ∧ cap = 0) ∨ ∃ a : Addr, bo = some a ∧ ∀ i, i < n → a.block < w.heap.size ∧ w.cell? (a.add i) = some (.int k (f i))

/-- A row of numbers as values. -/
def row (k : IntKind) (f : Nat → Int) (n : Nat) : List Value := (List.range n).map fun i => .int k (f i)
theorem row_len (k : IntKind) (f : Nat → Int) (n : Nat) : (row k f n).length = n := by simp [row]
theorem row_get {k : IntKind} {f : Nat → Int} {n i : Nat} (h : i < n) : (row k f n)[i]? = some (.int k (f i)) := by simp [row, h]
theorem row_inv {k : IntKind} {f : Nat → Int} {n i : Nat} {v : Value} (h : (row k f n)[i]? = some v) : i < n ∧ v = .int k (f i) := by
  have hi : i < n := by
    have := (List.getElem?_eq_some_iff.1 h).1
    rwa [row_len] at this
  exact ⟨hi, (Option.some.inj ((row_get hi).symm.trans h)).symm⟩
theorem row_one (k : IntKind) (f : Nat → Int) (n : Nat) : ∀ v ∈ row k f n, v.oneCell' = true := by
  intro v hv
  obtain ⟨i, _, rfl⟩ := List.mem_map.1 hv
  rfl
theorem splice_row (z : Value) (k : IntKind) (f : Nat → Int) (n : Nat) : splice (List.replicate n z) 0 (row k f n) = row k f n := by
  unfold splice
  rw [row_len]
  simp
theorem nums_of_row {w : World} {g t : Nat} {k : IntKind} {f : Nat → Int} {n : Nat} (hg : w.heap[g]? = some (.cells (row k f n).toArray t (0, 0))) : Nums w w.heap.size (some ⟨g, 0, none⟩) n k f := by
  intro i hi
  refine ⟨g, rfl, (Array.getElem?_eq_some_iff.1 hg).1, ?_⟩
  rw [cell_of_row w g i _ t _ hg]
  simpa using row_get hi

/-- The world with the array laid. -/
def boxed (w : World) (cn : Nat → Int) : World := w.alloc (.cells #[.int .i64 (cn 0), .int .i64 (cn 1), .int .i64 (cn 2), .int .i64 (cn 3), .int .i64 (cn 4), .int .i64 (cn 5), .int .i64 (cn 6), .int .i64 (cn 7)] 22)
theorem boxed_size (w : World) (cn : Nat → Int) : (boxed w cn).heap.size = w.heap.size + 1 := by simp [boxed]
theorem boxed_below (w : World) (cn : Nat → Int) : Below w.heap.size w (boxed w cn) := (Below.refl _ _).alloc (Nat.le_refl _) _
theorem boxed_cell (w : World) (cn : Nat → Int) (j : Nat) (hj : j < 8) : (boxed w cn).cell? ⟨w.heap.size, j, none⟩ = some (.int .i64 (cn j)) := by
  unfold boxed
  rcases (by omega : j = 0 ∨ j = 1 ∨ j = 2 ∨ j = 3 ∨ j = 4 ∨ j = 5 ∨ j = 6 ∨ j = 7) with rfl | rfl | rfl | rfl | rfl | rfl | rfl | rfl <;> simp [go_sem]

/-- The world behind the laying: the array's cells, and all that was there. -/
def Bx (w : World) (cn : Nat → Int) (wc : World) : Prop := Below (w.heap.size + 1) (boxed w cn) wc
theorem Bx.cell {w wc : World} {cn : Nat → Int} (h : Bx w cn wc) (j : Nat) (hj : j < 8) : wc.cell? ⟨w.heap.size, j, none⟩ = some (.int .i64 (cn j)) :=
  (Below.cell h (p := ⟨w.heap.size, j, none⟩) (Nat.lt_succ_self _)).trans (boxed_cell w cn j hj)
theorem Bx.below {w wc : World} {cn : Nat → Int} (h : Bx w cn wc) : Below w.heap.size w wc := (boxed_below w cn).trans (Below.mono h (by omega))
theorem Bx.lt {w wc : World} {cn : Nat → Int} (h : Bx w cn wc) : w.heap.size + 1 ≤ wc.heap.size := by
  have := Below.size h
  rwa [boxed_size] at this
theorem Bx.next {w wc w' : World} {cn : Nat → Int} (h : Bx w cn wc) (hb : Below (w.heap.size + 1) wc w') : Bx w cn w' := Below.trans h hb

/-- What a slice's copy is. -/
def Cop (w : World) (v : Value) (n : Nat) (k : IntKind) (f : Nat → Int) : Prop := ∃ so cap, v = .slice so n cap ∧ Nums w w.heap.size so n k f

theorem arg_src {w wc : World} {bo : Option Addr} {a : Addr} {n cap : Nat} {k : IntKind} {f : Nat → Int} (h : Arg w bo n cap k f) (ha : bo = some a) (hb : Below w.heap.size w wc) :
    ∀ j v, (row k f n)[j]? = some v → wc.cell? (a.add j) = some v := by
  intro j v hv
  obtain ⟨hj, rfl⟩ := row_inv hv
  rcases h with ⟨h0, _⟩ | ⟨a', h1, h2⟩
  · rw [h0] at ha; cases ha
  · obtain rfl : a' = a := Option.some.inj (h1.symm.trans ha)
    obtain ⟨h3, h4⟩ := h2 j hj
    exact (hb.cell (p := a'.add j) (by unfold Addr.add; split <;> exact h3)).trans h4

/-- The world behind 'make' and 'copy'. -/
def copied (w1 : World) (z : Value) (n : Nat) (e : TypeId) (k : IntKind) (f : Nat → Int) : World := (w1.alloc (.cells (madeCells #[z] n) e)).setRow w1.heap.size (row k f n).toArray

theorem made_heap (w1 : World) (z : Value) (n : Nat) (e : TypeId) : (w1.alloc (.cells (madeCells #[z] n) e)).heap[w1.heap.size]? = some (.cells (List.replicate n z).toArray e (0, 0)) := by
  rw [← toList_madeCells_one]
  exact blk_alloc_new _ _

theorem copied_nums (w1 : World) (z : Value) (n : Nat) (e : TypeId) (k : IntKind) (f : Nat → Int) : Nums (copied w1 z n e k f) (copied w1 z n e k f).heap.size (some ⟨w1.heap.size, 0, none⟩) n k f :=
  nums_of_row (setRow_heap _ _ _ _ _ _ (made_heap w1 z n e))

theorem copied_bx {w w1 : World} {cn : Nat → Int} (h : Bx w cn w1) (z : Value) (n : Nat) (e : TypeId) (k : IntKind) (f : Nat → Int) : Bx w cn (copied w1 z n e k f) :=
  below_setRow (Below.alloc h h.lt _) h.lt _

theorem copied_below (w1 : World) (z : Value) (n : Nat) (e : TypeId) (k : IntKind) (f : Nat → Int) : Below w1.heap.size w1 (copied w1 z n e k f) :=
  below_setRow ((Below.refl _ _).alloc (Nat.le_refl _) _) (Nat.le_refl _) _

theorem copy_eq {w w1 : World} {a : Addr} {n cap : Nat} {k : IntKind} {f : Nat → Int} (z : Value) (t e : TypeId) (hu : Try.prog.underlying t = some (.slice e)) (hsz : (Try.prog.info? e).map (·.size) = some 1) (h : Arg w (some a) n cap k f) (hb : Below w.heap.size w w1) :
    (Builtin.copy_ #[t, t] 3 #[.slice (some ⟨w1.heap.size, 0, none⟩) n n, .slice (some a) n cap]).run Try.prog (w1.alloc (.cells (madeCells #[z] n) e)) = .ok (goInt n) (copied w1 z n e k f) := by
  have hsrc := arg_src h rfl (hb.alloc hb.size (.cells (madeCells #[z] n) e))
  have h1 := run_copy_row (P := Try.prog) (w1.alloc (.cells (madeCells #[z] n) e)) t t 3 e w1.heap.size 0 n n a n cap _ e (row k f n) hu hsz (made_heap w1 z n e) (by simp [row_len]) hsrc (by simp [row_len]) (row_one _ _ _)
  rw [h1]
  have h2 : (List.take 0 (List.replicate n z).toArray.toList ++ row k f n ++ List.drop (0 + (row k f n).length) (List.replicate n z).toArray.toList) = row k f n := by
    rw [row_len]
    simp
  rw [h2, row_len]
  rfl

end Go.Proofs.Qxb6628717a
