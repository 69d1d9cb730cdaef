import Derived.Test.Qxb6628675aW1
import Derived.Test.Qxb6628675aBits
namespace Go.Proofs.Qxb6628675a
open Go.RowKit

set_option maxHeartbeats 400000 in
theorem nsec_any (b : Nat) (n : Int) (w : World) (n0 : 0 ≤ n) (n1 : n < 1000000000) (c0 : w.cell? ⟨b, 0, none⟩ = some (.int .u64 n)) :
    Calls Try.prog 15 #[.pointer (some ⟨b, 0, none⟩)] w fun e w' => e = .returned (.int .i32 n) ∧ w' = w := by
  have hm := mask30 n n0 n1
  go_enter Try.func15, Try.ntmps15
  go_wp2
  go_ret
  exact ⟨rfl, rfl⟩

set_option maxHeartbeats 400000 in
theorem sec_any (b : Nat) (n s : Int) (w : World) (n0 : 0 ≤ n) (n1 : n < 1000000000) (c0 : w.cell? ⟨b, 0, none⟩ = some (.int .u64 n)) (c1 : w.cell? ⟨b, 1, none⟩ = some (.int .i64 s)) :
    Calls Try.prog 21 #[.pointer (some ⟨b, 0, none⟩)] w fun e w' => e = .returned (.int .i64 s) ∧ w' = w := by
  have hm : (bits .and .u64 n 9223372036854775808 != 0) = false := by rw [mono_zero n n0 n1]; rfl
  go_enter Try.func21, Try.ntmps21
  go_wp2
  go_ret
  exact ⟨rfl, rfl⟩
set_option maxHeartbeats 400000 in
theorem addSec_any (b : Nat) (n s d : Int) (w : World) (n0 : 0 ≤ n) (n1 : n < 1000000000) (s0 : -100000000000 ≤ s) (s1 : s ≤ 100000000000) (d0 : -100000000000 ≤ d) (d1 : d ≤ 100000000000)
    (c0 : w.cell? ⟨b, 0, none⟩ = some (.int .u64 n)) (c1 : w.cell? ⟨b, 1, none⟩ = some (.int .i64 s)) (hf : w.frozen? ⟨b, 1, none⟩ = false) :
    Calls Try.prog 16 #[.pointer (some ⟨b, 0, none⟩), .int .i64 d] w fun e w' => e = .returned (.tuple #[]) ∧ w' = w.setCell ⟨b, 1, none⟩ (.int .i64 (s + d)) := by
  have hm : (bits .and .u64 n 9223372036854775808 != 0) = false := by rw [mono_zero n n0 n1]; rfl
  by_cases hd : 0 < d
  · have hs : decide (s < s + d) = true := by simp; omega
    go_enter Try.func16, Try.ntmps16
    go_wp2
    go_end0
    exact ⟨rfl, rfl⟩
  · have hs : decide (s < s + d) = false := by simp; omega
    go_enter Try.func16, Try.ntmps16
    go_wp2
    go_end0
    exact ⟨rfl, rfl⟩
end Go.Proofs.Qxb6628675a
