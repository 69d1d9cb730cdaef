import Derived.Test.Qxb6628755aW1
import Derived.OwnWalk
namespace Go.Proofs.Qxb6628755a
open Go.RowKit

theorem info29 : (Try.prog.info? 29).map (fun i => (i.zero, i.size, i.bytes)) = some (some (.agg #[.int .i64 0, .string ⟨#[]⟩]), 2, 24) := by kernel_rfl

theorem info_parts {P : Program} {e : TypeId} {z : Value} {s b : Nat} (h : (P.info? e).map (fun i => (i.zero, i.size, i.bytes)) = some (some z, s, b)) : ∃ i, P.info? e = some i ∧ i.zero = some z ∧ i.size = s ∧ i.bytes = b := by
  obtain ⟨i, h1, h2⟩ := Option.map_eq_some_iff.1 h
  simp only [Prod.mk.injEq] at h2
  exact ⟨i, h1, h2.1, h2.2.1, h2.2.2⟩

/-- The message under way: i fields of it are laid. -/
structure Msg (w : World) (g n : Nat) (xs : List F) (i : Nat) (wr : World) : Prop where
  isS : ∀ j, j < n * 2 → (wr.cell? ⟨g, j, none⟩).isSome = true
  held : ∀ k f, k < i → xs[k]? = some f → wr.cell? ⟨g, k * 2, none⟩ = some (.int .i64 f.t) ∧ wr.cell? ⟨g, k * 2 + 1, none⟩ = some (.string f.v)
  free : ∀ j, wr.frozen? ⟨g, j, none⟩ = false
  lt : g < wr.heap.size
  below : Below w.heap.size w wr

theorem msg_start {w w1 : World} {n : Nat} {xs : List F} {vs : List Value} (h : w1.ownsRow w.heap.size 29 2 (.slice (some ⟨w.heap.size, 0, none⟩) n n) n vs) (hg : w.grownBy w1 none) : Msg w w.heap.size n xs 0 w1 := by
  obtain ⟨_, h0 | ⟨g, cap, cur, hv, _, hc, h1, h2, h3, _⟩⟩ := h
  · cases h0.1
  · simp only [Value.slice.injEq, Option.some.injEq, Addr.mk.injEq] at hv
    obtain ⟨⟨rfl, _⟩, _, rfl⟩ := hv
    refine ⟨fun j hj => ?_, fun k f hk => by omega, fun j => ?_, (Array.getElem?_eq_some_iff.1 hc).1, (Below.refl _ _).grown hg (Nat.le_refl _) (fun q hq => by cases hq)⟩
    · rw [cell_of_row w1 _ j _ _ _ hc]
      simp [h3, hj]
    · simp [World.frozen?, hc]

/-- What toMessage hands back. -/
def Made (xs : List F) (n : Nat) (w : World) (e : Ending) (w' : World) : Prop := ∃ so' cap', e = .returned (.slice so' n cap') ∧ ArgF w' w'.heap.size so' xs ∧ n ≤ cap' ∧ cap' ≤ 65536 ∧ (so' = none → n = 0 ∧ cap' = 0) ∧ Below w.heap.size w w'

theorem Msg.next {w wr : World} {g n i : Nat} {xs : List F} {f : F} (h : Msg w g n xs i wr) (hw : w.heap.size ≤ g) (hi : i < n) (hf : xs[i]? = some f) :
    Msg w g n xs (i + 1) ((wr.setCell ⟨g, i * 2, none⟩ (.int .i64 f.t)).setCell ⟨g, i * 2 + 1, none⟩ (.string f.v)) := by
  have e1 : ∀ j, j ≠ i * 2 → j ≠ i * 2 + 1 → ((wr.setCell ⟨g, i * 2, none⟩ (.int .i64 f.t)).setCell ⟨g, i * 2 + 1, none⟩ (.string f.v)).cell? ⟨g, j, none⟩ = wr.cell? ⟨g, j, none⟩ := by
    intro j h1 h2
    rw [World.cell?_setCell_other _ _ _ _ (by intro hh; cases hh; exact h2 rfl), World.cell?_setCell_other _ _ _ _ (by intro hh; cases hh; exact h1 rfl)]
  obtain ⟨u0, hu0⟩ := Option.isSome_iff_exists.1 (h.isS (i * 2) (by omega))
  obtain ⟨u1, hu1⟩ := Option.isSome_iff_exists.1 (h.isS (i * 2 + 1) (by omega))
  have e2 : ((wr.setCell ⟨g, i * 2, none⟩ (.int .i64 f.t)).setCell ⟨g, i * 2 + 1, none⟩ (.string f.v)).cell? ⟨g, i * 2, none⟩ = some (.int .i64 f.t) := by
    rw [World.cell?_setCell_other _ _ _ _ (by intro hh; injection hh with _ h2; omega)]
    exact World.cell?_setCell_same _ _ _ hu0
  have e3 : ((wr.setCell ⟨g, i * 2, none⟩ (.int .i64 f.t)).setCell ⟨g, i * 2 + 1, none⟩ (.string f.v)).cell? ⟨g, i * 2 + 1, none⟩ = some (.string f.v) := by
    refine World.cell?_setCell_same _ _ _ (u := u1) ?_
    rw [World.cell?_setCell_other _ _ _ _ (by intro hh; injection hh with _ h2; omega)]
    exact hu1
  refine ⟨fun j hj => ?_, fun k f' hk hf' => ?_, fun j => ?_, by simpa using h.lt, (h.below.setCell hw _).setCell hw _⟩
  · by_cases h1 : j = i * 2
    · rw [h1, e2]; rfl
    · by_cases h2 : j = i * 2 + 1
      · rw [h2, e3]; rfl
      · rw [e1 j h1 h2]; exact h.isS j hj
  · by_cases hki : k = i
    · subst hki
      obtain rfl : f = f' := Option.some.inj (hf.symm.trans hf')
      exact ⟨e2, e3⟩
    · rw [e1 (k * 2) (by omega) (by omega), e1 (k * 2 + 1) (by omega) (by omega)]
      exact h.held k f' (by omega) hf'
  · rw [World.frozen?_setCell, World.frozen?_setCell]
    exact h.free j

set_option maxHeartbeats 1000000 in
theorem toMsg_any (so : Option Addr) (cap n : Nat) (xs : List F) (w : World) (hn : n ≤ 65536) (HN : Hid (n = xs.length)) (hso : so = none → n = 0) (HA : Hid (ArgF w w.heap.size so xs)) :
    Calls Try.prog 7 #[.slice so n cap] w (Made xs n w) := by
  obtain ⟨i0, hi, hz0, hz1, hz2⟩ := info_parts info29
  cases so with
  | none =>
    have hn0 : n = 0 := hso rfl
    subst hn0
    clear hso
    have hq := fun W => Lib.run_eql_slice_nil (P := Try.prog) W 22 32 none 0 cap 0 0 Try.underlying22
    go_enter Try.func7, Try.ntmps7
    go_wp2
    go_ret
    exact ⟨none, 0, rfl, .inl (List.eq_nil_of_length_eq_zero HN.out.symm), by omega, by omega, fun _ => ⟨rfl, rfl⟩, Below.refl _ _⟩
  | some a =>
    clear hso
    have hq := fun W => Lib.run_eql_slice_nil (P := Try.prog) W 22 32 (some a) n cap 0 0 Try.underlying22
    go_enter Try.func7, Try.ntmps7
    go_wp2_with (at_make; refine wpList_make_full _ rfl _ _ 26 rfl w.heap.size 29 i0 _ 2 Try.underlying26 hi hz0 hz1 .i64 .i64 _ _ n rfl rfl rfl rfl (by rw [hz2]; omega) (by unfold maxLen; omega) (Nat.le_refl _) ?_; intro w1 hown hgrow)
    have HM : Hid (Msg w w.heap.size n xs 0 w1) := msg_start hown hgrow
    clear hown hgrow
    go_loopw [4] (fun vi wr => ∃ i : Nat, vi = .int .i64 i ∧ i ≤ n ∧ Hid (Msg w w.heap.size n xs i wr)) (fun i _ => n - (intOf i).toNat)
    case atStart => exact ⟨0, rfl, Nat.zero_le _, HM⟩
    case round =>
      clear HM
      obtain ⟨i, rfl, hi', HM⟩ := hrel
      by_cases hlt : i < n
      · obtain ⟨b, o, f, hf, ha, hb, q0, q1⟩ := HA.out.at (k := i) (by rw [← HN.out]; exact hlt)
        have ha' : a = ⟨b, o, none⟩ := Option.some.inj ha
        subst ha'
        have c0 := (HM.out.below.cell (p := ⟨b, o + i * 2, none⟩) hb).trans q0
        have c1 := (HM.out.below.cell (p := ⟨b, o + i * 2 + 1, none⟩) hb).trans q1
        obtain ⟨x0, s0⟩ := Option.isSome_iff_exists.1 (HM.out.isS (i * 2) (by omega))
        obtain ⟨x1, s1⟩ := Option.isSome_iff_exists.1 (HM.out.isS (i * 2 + 1) (by omega))
        have s2 : (wr.setCell ⟨w.heap.size, i * 2, none⟩ (.int .i64 f.t)).cell? ⟨w.heap.size, i * 2 + 1, none⟩ = some x1 := by
          rw [World.cell?_setCell_other _ _ _ _ (by intro hh; injection hh with _ h2; omega)]
          exact s1
        have f0 := HM.out.free (i * 2)
        have f1 := HM.out.free (i * 2 + 1)
        have HNX := HM.out.next (Nat.le_refl _) hlt hf
        have HNX' : Hid (Msg w w.heap.size n xs (i + 1) ((wr.setCell ⟨w.heap.size, i * 2, none⟩ (.int .i64 f.t)).setCell ⟨w.heap.size, i * 2 + 1, none⟩ (.string f.v))) := HNX
        clear q0 q1 HNX ha hf
        go_wp2
        go_roundw
        case rel => exact ⟨i + 1, by go_num, by omega, HNX'⟩
        case measure => simp [intOf]; omega
      · have hin : n = i := by omega
        subst hin
        go_wp2
        go_ret
        refine ⟨_, _, rfl, ?_, Nat.le_refl _, hn, (fun h => by cases h), HM.out.below⟩
        exact .inr ⟨w.heap.size, 0, rfl, HM.out.lt, fun k f hf => by
          have hk : k < n := by rw [HN.out]; exact (List.getElem?_eq_some_iff.1 hf).1
          have h := HM.out.held k f hk hf
          rw [Nat.zero_add]
          exact h⟩
end Go.Proofs.Qxb6628755a
