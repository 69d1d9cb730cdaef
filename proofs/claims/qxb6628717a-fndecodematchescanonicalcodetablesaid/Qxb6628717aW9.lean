import Derived.Test.Qxb6628717aW6
namespace Go.Proofs.Qxb6628717a
open Go.RowKit Go.Deep

set_option maxHeartbeats 1000000 in
theorem sbit_past (bo : Option Addr) (n cap : Nat) (j : Int) (w : World) (hn : n ≤ 524288) (j1 : 8 * n ≤ j) :
    Calls Try.prog 11 #[.slice bo n cap, .int .i64 j] w fun e w' => e = .returned (.int .i64 0) ∧ w' = w := by
  go_enter Try.func11, Try.ntmps11
  go_wp2
  go_ret
  exact ⟨rfl, rfl⟩

set_option maxHeartbeats 1000000 in
theorem sbit_in (B : Nat) (n cap : Nat) (j x : Int) (w : World) (hn : n ≤ 524288) (j0 : 0 ≤ j) (j1 : j < 8 * n) (hx : w.cell? ⟨B, (j / 8).toNat, none⟩ = some (.int .u8 x)) (x0 : 0 ≤ x) (x1 : x ≤ 255) :
    Calls Try.prog 11 #[.slice (some ⟨B, 0, none⟩) n cap, .int .i64 j] w fun e w' => e = .returned (.int .i64 (x / 2 ^ (j % 8).toNat % 2)) ∧ w' = w := by
  have hd := div_pow_bd (j % 8).toNat x0 (by omega)
  have hv : wrap64 (bits .and .u8 (x / 2 ^ (j % 8).toNat) 1) = x / 2 ^ (j % 8).toNat % 2 := by
    rw [and_one hd.1 hd.2]
    exact wrap_in (by omega) (by omega)
  have HV : Hid (wrap64 (bits .and .u8 (x / 2 ^ (j % 8).toNat) 1) = x / 2 ^ (j % 8).toNat % 2) := hv
  clear hv hd
  go_enter Try.func11, Try.ntmps11
  go_wp2
  go_ret
  refine ⟨?_, rfl⟩
  rw [← HV.out]
  rfl

theorem sbit_any (bo : Option Addr) (n cap L : Nat) (bs : Nat → Int) (j : Int) (w : World) (hB : Nums w L bo n .u8 bs) (hbs : ∀ i, i < n → 0 ≤ bs i ∧ bs i ≤ 255) (hn : n ≤ 524288) (j0 : 0 ≤ j) :
    Calls Try.prog 11 #[.slice bo n cap, .int .i64 j] w fun e w' => e = .returned (.int .i64 (sbit bs n j)) ∧ w' = w := by
  by_cases h : 8 * (n : Int) ≤ j
  · have e : sbit bs n j = 0 := if_pos h
    rw [e]
    exact sbit_past bo n cap j w hn h
  · have e : sbit bs n j = bs (j / 8).toNat / 2 ^ (j % 8).toNat % 2 := if_neg h
    rw [e]
    have hi : (j / 8).toNat < n := by omega
    obtain ⟨B, rfl, _, hc⟩ := hB _ hi
    exact sbit_in B n cap j _ w hn j0 (by omega) hc (hbs _ hi).1 (hbs _ hi).2

/-- The first codes as an array. -/
abbrev firsts (cn : Nat → Int) : Value := .agg #[.int .i64 0, .int .i64 (fst cn 0), .int .i64 (fst cn 1), .int .i64 (fst cn 2), .int .i64 (fst cn 3), .int .i64 (fst cn 4), .int .i64 (fst cn 5), .int .i64 (fst cn 6)]

set_option maxHeartbeats 2000000 in
theorem firsts_any (cn : Nat → Int) (w : World) (hc : ∀ j, 1 ≤ j → j < 8 → 0 ≤ cn j ∧ cn j ≤ 65536) :
    Calls Try.prog 10 #[arr cn] w fun e w' => e = .returned (firsts cn) ∧ Below w.heap.size w w' := by
  have g1 := hc 1 (by omega) (by omega)
  have g2 := hc 2 (by omega) (by omega)
  have g3 := hc 3 (by omega) (by omega)
  have g4 := hc 4 (by omega) (by omega)
  have g5 := hc 5 (by omega) (by omega)
  have g6 := hc 6 (by omega) (by omega)
  have q1 : cn 1 * 2 = fst cn 1 := by simp only [fst, Nat.reduceAdd]; omega
  have q2 : (cn 1 * 2 + cn 2) * 2 = fst cn 2 := by simp only [fst, Nat.reduceAdd]; omega
  have q3 : ((cn 1 * 2 + cn 2) * 2 + cn 3) * 2 = fst cn 3 := by simp only [fst, Nat.reduceAdd]; omega
  have q4 : (((cn 1 * 2 + cn 2) * 2 + cn 3) * 2 + cn 4) * 2 = fst cn 4 := by simp only [fst, Nat.reduceAdd]; omega
  have q5 : ((((cn 1 * 2 + cn 2) * 2 + cn 3) * 2 + cn 4) * 2 + cn 5) * 2 = fst cn 5 := by simp only [fst, Nat.reduceAdd]; omega
  have q6 : (((((cn 1 * 2 + cn 2) * 2 + cn 3) * 2 + cn 4) * 2 + cn 5) * 2 + cn 6) * 2 = fst cn 6 := by simp only [fst, Nat.reduceAdd]; omega
  have HE : Hid (Value.agg #[.int .i64 0, .int .i64 0, .int .i64 (cn 1 * 2), .int .i64 ((cn 1 * 2 + cn 2) * 2), .int .i64 (((cn 1 * 2 + cn 2) * 2 + cn 3) * 2), .int .i64 ((((cn 1 * 2 + cn 2) * 2 + cn 3) * 2 + cn 4) * 2), .int .i64 (((((cn 1 * 2 + cn 2) * 2 + cn 3) * 2 + cn 4) * 2 + cn 5) * 2), .int .i64 ((((((cn 1 * 2 + cn 2) * 2 + cn 3) * 2 + cn 4) * 2 + cn 5) * 2 + cn 6) * 2)] = firsts cn) := by
    show _ = _
    rw [q6, q5, q4, q3, q2, q1]
    rfl
  clear q1 q2 q3 q4 q5 q6
  go_enter Try.func10, Try.ntmps10
  go_wp2
  refine wp_loop_rounds 8 ?_
  iterate 8 (rw [rounds_succ]; go_wp2)
  exact bodyPost_ret (v := .agg #[.int .i64 0, .int .i64 0, .int .i64 (cn 1 * 2), .int .i64 ((cn 1 * 2 + cn 2) * 2), .int .i64 (((cn 1 * 2 + cn 2) * 2 + cn 3) * 2), .int .i64 ((((cn 1 * 2 + cn 2) * 2 + cn 3) * 2 + cn 4) * 2), .int .i64 (((((cn 1 * 2 + cn 2) * 2 + cn 3) * 2 + cn 4) * 2 + cn 5) * 2), .int .i64 ((((((cn 1 * 2 + cn 2) * 2 + cn 3) * 2 + cn 4) * 2 + cn 5) * 2 + cn 6) * 2)]) (by simp [results, Try.results10, go_sem]) rfl ⟨by rw [HE.out], laid_below _ _ _ _⟩
end Go.Proofs.Qxb6628717a
