import Derived.Test.Qxb6628755aW3
import Derived.Deep.DeepCutAuto
import Derived.Laws.OwnMore
import Derived.WideShapes
namespace Go.Proofs.Qxb6628755a
open Go.RowKit

def F.vals (f : F) : List Value := [.int .i64 f.t, .string f.v]
def valsOf (xs : List F) : List Value := xs.flatMap F.vals

theorem valsOf_length (xs : List F) : (valsOf xs).length = xs.length * 2 := by
  induction xs with
  | nil => rfl
  | cons c r ih => simp only [valsOf, List.flatMap_cons, List.length_append, List.length_cons] at ih ⊢; rw [ih]; simp [F.vals]; omega

theorem valsOf_append (xs ys : List F) : valsOf (xs ++ ys) = valsOf xs ++ valsOf ys := List.flatMap_append

theorem valsOf_at : ∀ (xs : List F) (k : Nat) (f : F) (j : Nat), xs[k]? = some f → j < 2 → (valsOf xs)[k * 2 + j]? = f.vals[j]?
  | [], k, f, j, h, _ => by simp at h
  | d :: r, 0, f, j, h, hj => by
    obtain rfl : d = f := Option.some.inj h
    simp only [valsOf, List.flatMap_cons, Nat.zero_mul, Nat.zero_add]
    rw [List.getElem?_append_left (by simpa [F.vals] using hj)]
  | d :: r, k + 1, f, j, h, hj => by
    have ih := valsOf_at r k f j (by simpa using h) hj
    simp only [valsOf, List.flatMap_cons] at ih ⊢
    rw [List.getElem?_append_right (by simp [F.vals]; omega), ← ih]
    congr 1
    simp [F.vals]; omega

theorem vals_one (xs : List F) : ∀ u ∈ valsOf xs, u.oneCell' = true := by
  intro u hu
  obtain ⟨f, _, hf⟩ := List.mem_flatMap.1 hu
  simp only [F.vals, List.mem_cons, List.not_mem_nil, or_false] at hf
  rcases hf with rfl | rfl <;> rfl

theorem src_of_arg {w : World} {L : Nat} {so : Option Addr} {xs : List F} (h : ArgF w L so xs) : ∀ ad, so = some ad → ∀ j u, (valsOf xs)[j]? = some u → w.cell? (ad.add j) = some u := by
  intro ad had j u hu
  rcases h with rfl | ⟨b, o, h1, _, h3⟩
  · simp [valsOf] at hu
  · obtain rfl : ad = ⟨b, o, none⟩ := Option.some.inj (had.symm.trans h1)
    have hj : j < xs.length * 2 := by
      have := (List.getElem?_eq_some_iff.1 hu).1
      rwa [valsOf_length] at this
    have hk : j / 2 < xs.length := by omega
    have hf : xs[j / 2]? = some (xs[j / 2]) := List.getElem?_eq_getElem hk
    have hv := valsOf_at xs (j / 2) _ (j % 2) hf (by omega)
    rw [show j / 2 * 2 + j % 2 = j by omega, hu] at hv
    obtain ⟨q0, q1⟩ := h3 _ _ hf
    rw [show (⟨b, o, none⟩ : Addr).add j = ⟨b, o + j, none⟩ from Go.WideShapes.add_plain ..]
    rcases (by omega : j % 2 = 0 ∨ j % 2 = 1) with e | e
    · rw [e] at hv
      simp only [F.vals, List.getElem?_cons_zero, Option.some.injEq] at hv
      rw [hv, ← q0]
      congr 2
      omega
    · rw [e] at hv
      simp only [F.vals, List.getElem?_cons_succ, List.getElem?_cons_zero, Option.some.injEq] at hv
      rw [hv, ← q1]
      congr 2
      omega

theorem arg_of_owns {w : World} {base g n cap : Nat} {xs : List F} (h : w.ownsRow base 29 2 (.slice (some ⟨g, 0, none⟩) n cap) n (valsOf xs)) (hn : n = xs.length) : ArgF w w.heap.size (some ⟨g, 0, none⟩) xs := by
  refine .inr ⟨g, 0, rfl, (h.lt g rfl).2, fun k f hf => ?_⟩
  have hk : k < xs.length := (List.getElem?_eq_some_iff.1 hf).1
  have key : ∀ j, j < 2 → w.cell? ⟨g, 0 + k * 2 + j, none⟩ = f.vals[j]? := by
    intro j hj
    rw [Nat.zero_add, h.cellAt (k * 2 + j) (by rw [hn]; omega), valsOf_at xs k f j hf hj]
  exact ⟨key 0 (by decide), key 1 (by decide)⟩

theorem get_append (tag : Int) (xs ys : List F) : get tag (xs ++ ys) = if (get tag xs).2 = true then get tag xs else get tag ys := by
  induction xs with
  | nil => simp [get]
  | cons f r ih =>
    simp only [List.cons_append, get]
    by_cases h : f.t = tag
    · simp [h]
    · simp only [if_neg h]; exact ih

theorem get_no {tag : Int} {xs : List F} (h : (get tag xs).2 = false) : get tag xs = (⟨#[]⟩, false) := by
  induction xs with
  | nil => rfl
  | cons f r ih =>
    simp only [get] at h ⊢
    by_cases e : f.t = tag
    · simp [e] at h
    · simp only [if_neg e] at h ⊢; exact ih h

theorem below_grown {L : Nat} {w w' : World} {row : Option Nat} (h : w.grownBy w' row) (hL : L ≤ w.heap.size) (hr : ∀ k, row = some k → L ≤ k) : Below L w w' := (Below.refl L w).grown h hL hr

theorem new_cells (w : World) (f : F) : ∀ j u, f.vals[j]? = some u → (w.alloc (.cells #[.int .i64 f.t, .string f.v] 29)).cell? ((⟨w.heap.size, 0, none⟩ : Addr).add j) = some u := by
  intro j u hu
  have e : (w.alloc (.cells #[.int .i64 f.t, .string f.v] 29)).cell? ⟨w.heap.size, j, none⟩ = f.vals[j]? := by
    rw [World.cell?_alloc_at _ _ _ _ rfl]; simp [F.vals]
  by_cases h : j = 0
  · subst h; exact e.trans hu
  · simpa [Addr.add, h] using e.trans hu
end Go.Proofs.Qxb6628755a
