import Derived.Test.Qxb6628675aW3
import Derived.Deep.RegionWith
namespace Go.Proofs.Qxb6628675a
open Go.RowKit

/-- The four cells of a frame. -/
structure Frm (w : World) (b : Nat) (E L C P : Int) : Prop where
  c0 : w.cell? ⟨b, 0, none⟩ = some (.int .i64 E)
  c1 : w.cell? ⟨b, 1, none⟩ = some (.int .i64 L)
  c2 : w.cell? ⟨b, 2, none⟩ = some (.int .i64 C)
  c3 : w.cell? ⟨b, 3, none⟩ = some (.int .i64 P)
  lt : b < w.heap.size

abbrev agg4 (E L C P : Int) : Value := .agg #[.int .i64 E, .int .i64 L, .int .i64 C, .int .i64 P]

set_option maxHeartbeats 400000 in
theorem at_lasts (b : Nat) (E L C P mx ll alg : Int) (w : World) (hF : Frm w b E L C P) (h : 0 < E) :
    Calls Try.prog 24 #[.pointer (some ⟨b, 0, none⟩), .int .i64 0, .agg #[.int .i64 mx, .int .i64 ll, .int .i64 alg]] w fun e w' => e = .returned (agg4 E L C P) ∧ Below w.heap.size w w' := by
  obtain ⟨c0, c1, c2, c3, lt⟩ := hF
  go_enter Try.func24, Try.ntmps24
  go_wp2
  exact bodyPost_ret (v := agg4 E L C P) (by simp [results, Try.results24, go_sem]) rfl ⟨rfl, ((Below.refl _ _).alloc (Nat.le_refl _) _).alloc (by simp) _⟩

set_option maxHeartbeats 400000 in
theorem at_next (b : Nat) (E L C P mx ll : Int) (w : World) (hF : Frm w b E L C P) (h : E ≤ 0) (hE : -9223372036854775808 ≤ E) (l0 : 0 ≤ ll) (l1 : ll ≤ 9223372036854775807) (hL : 0 ≤ L) (hL1 : L ≤ 9223372036854775807) (h1 : 0 < E + ll) (h2 : 0 < E + L) :
    Calls Try.prog 24 #[.pointer (some ⟨b, 0, none⟩), .int .i64 0, .agg #[.int .i64 mx, .int .i64 ll, .int .i64 1]] w fun e w' => e = .returned (agg4 (E + ll) ll 0 C) ∧ Below w.heap.size w w' := by
  obtain ⟨c0, c1, c2, c3, lt⟩ := hF
  go_enter Try.func24, Try.ntmps24
  go_wp2
  go_quiet ((go_at_call 26; exact Calls.quiet_of_same (later_any E ll _ hE l0 (by omega))))
  go_wp2_with fail
  refine (until_any b E L _ hE hL (by omega) ?_ ?_).mono ?_
  · go_simp
  · go_simp
  rintro e w1 ⟨rfl, n, rfl⟩
  go_wp2
  go_region
  all_goals
    go_wp2
    exact bodyPost_ret (v := agg4 (E + ll) ll 0 C) (by simp [results, Try.results24, go_sem]) rfl ⟨rfl, ((((below_drewN (((Below.refl _ _).alloc (Nat.le_refl _) _).alloc (by simp) _) _).setCell (by simp) _).setCell (by simp) _).setCell (by simp) _).setCell (by simp) _⟩

set_option maxHeartbeats 1000000 in
theorem at_else (b : Nat) (E L C P mx ll alg : Int) (w : World) (hF : Frm w b E L C P) (h : E ≤ 0) (hE : -9223372036854775808 ≤ E) (l0 : 0 ≤ ll) (l1 : ll ≤ 9223372036854775807) (hL : 0 ≤ L) (hL1 : L ≤ 9223372036854775807) (hn : ¬ (alg = 1 ∧ 0 < E + ll ∧ 0 < E + L)) :
    Calls Try.prog 24 #[.pointer (some ⟨b, 0, none⟩), .int .i64 0, .agg #[.int .i64 mx, .int .i64 ll, .int .i64 alg]] w fun e w' => e = .returned (agg4 ll ll 0 0) ∧ Below w.heap.size w w' := by
  obtain ⟨c0, c1, c2, c3, lt⟩ := hF
  by_cases ha : alg = 1
  · subst ha
    by_cases h1 : 0 < E + ll
    · have h2 : ¬ 0 < E + L := fun h2 => hn ⟨rfl, h1, h2⟩
      clear hn
      go_enter Try.func24, Try.ntmps24
      go_wp2
      go_quiet ((go_at_call 26; exact Calls.quiet_of_same (later_any E ll _ hE l0 (by omega))))
      go_wp2_with fail
      refine (until_any b E L _ hE hL (by omega) ?_ ?_).mono ?_
      · go_simp
      · go_simp
      rintro e w1 ⟨rfl, n, rfl⟩
      go_wp2_with fail
      go_region_with (go_at_call 26; refine (later_any 0 ll _ (by decide) l0 (by omega)).mono ?_; rintro e w2 ⟨rfl, rfl⟩)
      all_goals
        go_wp2
        exact bodyPost_ret (v := agg4 ll ll 0 0) (by simp [results, Try.results24, go_sem]) rfl ⟨rfl, ((((below_drewN (((Below.refl _ _).alloc (Nat.le_refl _) _).alloc (by simp) _) _).setCell (by simp) _).setCell (by simp) _).setCell (by simp) _).setCell (by simp) _⟩
    · clear hn
      go_enter Try.func24, Try.ntmps24
      go_wp2
      go_quiet ((go_at_call 26; exact Calls.quiet_of_same (later_any E ll _ hE l0 (by omega))))
      go_wp2_with fail
      go_region_with (go_at_call 26; refine (later_any 0 ll _ (by decide) l0 (by omega)).mono ?_; rintro e w2 ⟨rfl, rfl⟩)
      all_goals
        go_wp2
        exact bodyPost_ret (v := agg4 ll ll 0 0) (by simp [results, Try.results24, go_sem]) rfl ⟨rfl, ((((below_drewN (((Below.refl _ _).alloc (Nat.le_refl _) _).alloc (by simp) _) _).setCell (by simp) _).setCell (by simp) _).setCell (by simp) _).setCell (by simp) _⟩
  · have hab : (alg == 1) = false := by simpa using ha
    clear hn
    go_enter Try.func24, Try.ntmps24
    go_wp2
    go_quiet ((go_at_call 26; exact Calls.quiet_of_same (later_any E ll _ hE l0 (by omega))))
    go_wp2_with fail
    go_region_with (go_at_call 26; refine (later_any 0 ll _ (by decide) l0 (by omega)).mono ?_; rintro e w2 ⟨rfl, rfl⟩)
    all_goals
      go_wp2
      exact bodyPost_ret (v := agg4 ll ll 0 0) (by simp [results, Try.results24, go_sem]) rfl ⟨rfl, ((((below_drewN (((Below.refl _ _).alloc (Nat.le_refl _) _).alloc (by simp) _) _).setCell (by simp) _).setCell (by simp) _).setCell (by simp) _).setCell (by simp) _⟩

/-- The frame that a request at the moment 0 falls in. -/
structure Fr where
  E : Int
  L : Int
  C : Int
  P : Int

def frAt (E L C P ll alg : Int) : Fr := if 0 < E then ⟨E, L, C, P⟩ else if alg = 1 ∧ 0 < E + ll ∧ 0 < E + L then ⟨E + ll, ll, 0, C⟩ else ⟨ll, ll, 0, 0⟩

theorem at_any (b : Nat) (E L C P mx ll alg : Int) (w : World) (hF : Frm w b E L C P) (hE : -9223372036854775808 ≤ E) (l0 : 0 ≤ ll) (l1 : ll ≤ 9223372036854775807) (hL : 0 ≤ L) (hL1 : L ≤ 9223372036854775807) :
    Calls Try.prog 24 #[.pointer (some ⟨b, 0, none⟩), .int .i64 0, .agg #[.int .i64 mx, .int .i64 ll, .int .i64 alg]] w fun e w' => e = .returned (agg4 (frAt E L C P ll alg).E (frAt E L C P ll alg).L (frAt E L C P ll alg).C (frAt E L C P ll alg).P) ∧ Below w.heap.size w w' := by
  by_cases h : 0 < E
  · have e : frAt E L C P ll alg = ⟨E, L, C, P⟩ := by rw [frAt, if_pos h]
    rw [e]
    exact at_lasts b E L C P mx ll alg w hF h
  · by_cases h2 : alg = 1 ∧ 0 < E + ll ∧ 0 < E + L
    · have e : frAt E L C P ll alg = ⟨E + ll, ll, 0, C⟩ := by rw [frAt, if_neg h, if_pos h2]
      rw [e]
      obtain ⟨rfl, h3, h4⟩ := h2
      exact at_next b E L C P mx ll w hF (by omega) hE l0 l1 hL hL1 h3 h4
    · have e : frAt E L C P ll alg = ⟨ll, ll, 0, 0⟩ := by rw [frAt, if_neg h, if_neg h2]
      rw [e]
      exact at_else b E L C P mx ll alg w hF (by omega) hE l0 l1 hL hL1 h2
end Go.Proofs.Qxb6628675a
