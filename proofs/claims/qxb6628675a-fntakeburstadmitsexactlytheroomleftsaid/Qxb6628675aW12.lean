import Derived.Test.Qxb6628675aW11
namespace Go.Proofs.Qxb6628675a
open Go.RowKit

abbrev zeroT : Value := .agg #[.int .u64 0, .int .i64 0, .pointer none]
theorem T_zero : T 0 = zeroT := by simp

theorem addz_any (d : Int) (w : World) (d0 : -9223372036854775808 ≤ d) (d1 : d ≤ 9223372036854775807) :
    Calls Try.prog 10 #[zeroT, .int .i64 d] w fun e w' => e = .returned (T d) ∧ Below w.heap.size w w' := by
  have := add_any 0 d w (by omega) (by omega) d0 d1
  rwa [T_zero, Int.zero_add] at this

set_option maxHeartbeats 400000 in
theorem window_any (e l c p : Int) (w : World) (e0 : -9223372036854775808 ≤ e) (e1 : e ≤ 9223372036854775807) :
    Calls Try.prog 6 #[.int .i64 e, .int .i64 l, .int .i64 c, .int .i64 p] w fun r w' => ∃ b, r = .returned (.pointer (some ⟨b, 0, none⟩)) ∧ w.heap.size ≤ b ∧ Win w' b e l c p ∧ Below w.heap.size w w' := by
  go_enter Try.func6, Try.ntmps6
  go_wp2_with fail
  refine (addz_any e _ e0 e1).mono ?_
  rintro r w1 ⟨rfl, hb1⟩
  go_wp2_with fail
  go_ret
  have z1 := hb1.size
  refine ⟨w1.heap.size, rfl, z1, ⟨?_, ?_, ?_, ?_, ?_, ?_, fun j => ?_, ?_⟩, hb1.alloc z1 _⟩
  all_goals simp

set_option maxHeartbeats 400000 in
theorem ztake_ref (b : Nat) (e l c p x mx ll alg : Int) (w : World) (hW : Win w b e l c p) (pre : Pre e l c p x mx ll) (hr : room (inW e l c p x ll alg) x mx = false) :
    Calls Try.prog 7 #[.pointer (some ⟨b, 0, none⟩), .int .i64 x, .int .i64 mx, .int .i64 ll, .int .i64 alg] w fun r w' => r = .returned (.bool false) ∧ Below w.heap.size w w' := by
  have HW : Hid (Win w b e l c p) := hW
  have HP : Hid (Pre e l c p x mx ll) := pre
  have HR : Hid (room (inW e l c p x ll alg) x mx = false) := hr
  clear hW pre hr
  go_enter Try.func7, Try.ntmps7
  go_wp2_with fail
  refine (addz_any x _ (by have := HP.out.n0; omega) (by have := HP.out.n1; omega)).mono ?_
  rintro r w1 ⟨rfl, hb1⟩
  go_wp2_with fail
  refine (take_ref b e l c p x mx ll alg w1 (HW.out.below hb1 HW.out.lt) HP.out HR.out).mono ?_
  rintro r w2 ⟨rfl, hb2⟩
  go_wp2_with fail
  go_ret
  exact ⟨rfl, hb1.trans (hb2.mono hb1.size)⟩

theorem grown_after {w w1 w2 : World} {b : Nat} (hb : Below w.heap.size w w1) (hg : w1.grownBy w2 (some b)) : w.grownBy w2 (some b) :=
  ⟨hg.os.trans hb.os, hg.tape.trans hb.tape, hg.output.trans hb.output, Nat.le_trans hb.size hg.size, fun k hk hne => (hg.block k (Nat.lt_of_lt_of_le hk hb.size) hne).trans (hb.block k hk)⟩

set_option maxHeartbeats 400000 in
theorem ztake_adm (b : Nat) (e l c p x mx ll alg : Int) (f : Fr) (w : World) (hW : Win w b e l c p) (pre : Pre e l c p x mx ll) (hf : inW e l c p x ll alg = f) (hr : room f x mx = true) :
    Calls Try.prog 7 #[.pointer (some ⟨b, 0, none⟩), .int .i64 x, .int .i64 mx, .int .i64 ll, .int .i64 alg] w fun r w' => r = .returned (.bool true) ∧ Win w' b f.E f.L (f.C + 1) f.P ∧ w.grownBy w' (some b) := by
  subst hf
  have HW : Hid (Win w b e l c p) := hW
  have HP : Hid (Pre e l c p x mx ll) := pre
  have HR : Hid (room (inW e l c p x ll alg) x mx = true) := hr
  clear hW pre hr
  go_enter Try.func7, Try.ntmps7
  go_wp2_with fail
  refine (addz_any x _ (by have := HP.out.n0; omega) (by have := HP.out.n1; omega)).mono ?_
  rintro r w1 ⟨rfl, hb1⟩
  go_wp2_with fail
  refine (take_adm b e l c p x mx ll alg w1 (HW.out.below hb1 HW.out.lt) HP.out HR.out).mono ?_
  rintro r w2 ⟨rfl, hW2, hg⟩
  go_wp2_with fail
  go_ret
  exact ⟨rfl, hW2, grown_after hb1 hg⟩

theorem subz_any (x : Int) (w : World) (x0 : -9223372036854775808 ≤ x) (x1 : x ≤ 9223372036854775807) :
    Calls Try.prog 13 #[T x, zeroT] w fun e w' => e = .returned (.int .i64 x) ∧ Below w.heap.size w w' := by
  have := sub_any x 0 w (by omega) (by omega) (by omega) (by omega) (by omega) (by omega)
  rwa [T_zero, Int.sub_zero] at this

set_option maxHeartbeats 1000000 in
theorem fields_any (b : Nat) (e l c p : Int) (w : World) (hW : Win w b e l c p) (e0 : -9223372036854775808 ≤ e) (e1 : e ≤ 9223372036854775807) :
    Calls Try.prog 9 #[.pointer (some ⟨b, 0, none⟩)] w fun r w' => r = .returned (.tuple #[.int .i64 e, .int .i64 l, .int .i64 c, .int .i64 p]) ∧ Below w.heap.size w w' := by
  obtain ⟨c0, c1, c2, c3, c4, c5, free, lt⟩ := hW
  clear free
  go_enter Try.func9, Try.ntmps9
  go_wp2_with fail
  go_region_held3 (fun W => W.cell? ⟨b, 0, none⟩ = some (.int .u64 (e % 1000000000)) ∧ W.cell? ⟨b, 1, none⟩ = some (.int .i64 (e / 1000000000)) ∧ W.cell? ⟨b, 2, none⟩ = some (.pointer none) ∧ W.cell? ⟨b, 3, none⟩ = some (.int .i64 l) ∧ W.cell? ⟨b, 4, none⟩ = some (.int .i64 c) ∧ W.cell? ⟨b, 5, none⟩ = some (.int .i64 p))
    (go_keep)
    (first | (go_at_call 13; refine (subz_any e _ e0 e1).mono ?_; rintro r w1 ⟨rfl, hb1⟩; have hcb : ∀ o, w1.cell? ⟨b, o, none⟩ = w.cell? ⟨b, o, none⟩ := (fun o => (hb1.cell (p := ⟨b, o, none⟩) lt))))
  all_goals
    go_wp2
    exact bodyPost_ret (v := .tuple #[.int .i64 e, .int .i64 l, .int .i64 c, .int .i64 p]) (by simp [results, Try.results9, go_sem]) rfl ⟨rfl, (Below.refl _ w).drew.trans hb1⟩
end Go.Proofs.Qxb6628675a
