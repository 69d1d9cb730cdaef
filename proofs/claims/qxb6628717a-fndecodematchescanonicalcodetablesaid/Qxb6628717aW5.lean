import Derived.Test.Qxb6628717aW4
namespace Go.Proofs.Qxb6628717a
open Go.RowKit

set_option maxHeartbeats 1000000 in
theorem bytes8_any (so bo : Option Addr) (sn scap n cap : Nat) (cn : Nat → Int) (at_ : Int) (sh r : Bool) (w : World) (hs : sn ≤ 9223372036854775807) (hn : n ≤ 9223372036854775807) (hr : r = decide (sn + n ≤ 1048576)) :
    Calls Try.prog 8 #[arr cn, .slice so sn scap, .slice bo n cap, .int .i64 at_, .bool sh] w fun e w' => e = .returned (.bool r) ∧ Below w.heap.size w w' := by
  have hB : Below w.heap.size w (w.alloc (.cells #[.int .i64 (cn 0), .int .i64 (cn 1), .int .i64 (cn 2), .int .i64 (cn 3), .int .i64 (cn 4), .int .i64 (cn 5), .int .i64 (cn 6), .int .i64 (cn 7)] 22)) := (Below.refl _ _).alloc (Nat.le_refl _) _
  have HR : Hid (r = decide (sn + n ≤ 1048576)) := hr
  clear hr
  go_enter Try.func8, Try.ntmps8
  go_wp2
  all_goals
    go_ret
    refine ⟨?_, hB⟩
    rw [HR.out]
    first
      | (have h : sn + n ≤ 1048576 := by omega
         rw [decide_eq_true h]; rfl)
      | (have h : ¬ sn + n ≤ 1048576 := by omega
         rw [decide_eq_false h]; rfl)

set_option maxHeartbeats 1000000 in
theorem bytes5_any (so bo : Option Addr) (sn scap n cap : Nat) (cn : Nat → Int) (at_ : Int) (sh r : Bool) (w : World) (hs : sn ≤ 9223372036854775807) (hn : n ≤ 9223372036854775807) (hr : r = decide (sn + n ≤ 1048576)) :
    Calls Try.prog 5 #[arr cn, .slice so sn scap, .slice bo n cap, .int .i64 at_, .bool sh] w fun e w' => e = .returned (.bool r) ∧ Below w.heap.size w w' := by
  have hB : Below w.heap.size w (w.alloc (.cells #[.int .i64 (cn 0), .int .i64 (cn 1), .int .i64 (cn 2), .int .i64 (cn 3), .int .i64 (cn 4), .int .i64 (cn 5), .int .i64 (cn 6), .int .i64 (cn 7)] 22)) := (Below.refl _ _).alloc (Nat.le_refl _) _
  have HR : Hid (r = decide (sn + n ≤ 1048576)) := hr
  clear hr
  go_enter Try.func5, Try.ntmps5
  go_wp2
  all_goals
    go_ret
    refine ⟨?_, hB⟩
    rw [HR.out]
    first
      | (have h : sn + n ≤ 1048576 := by omega
         rw [decide_eq_true h]; rfl)
      | (have h : ¬ sn + n ≤ 1048576 := by omega
         rw [decide_eq_false h]; rfl)
end Go.Proofs.Qxb6628717a
