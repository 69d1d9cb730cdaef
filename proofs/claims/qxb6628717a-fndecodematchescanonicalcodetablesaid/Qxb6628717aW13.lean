import Derived.Test.Qxb6628717aW12
namespace Go.Proofs.Qxb6628717a
open Go.RowKit Go.Deep

set_option maxRecDepth 20000 in
set_option maxHeartbeats 1000000 in
theorem law3_any (so bo : Option Addr) (sn scap n cap : Nat) (sy bs cn : Nat → Int) (at_ : Int) (sh : Bool) (w : World) (hs : sn ≤ 9223372036854775807) (hn : n ≤ 9223372036854775807) (HBS : Hid (∀ i, i < n → 0 ≤ bs i ∧ bs i ≤ 255)) (HS : Hid (Arg w so sn scap .i64 sy)) (HB : Hid (Arg w bo n cap .u8 bs)) :
    Calls Try.prog 3 #[arr cn, .slice so sn scap, .slice bo n cap, .int .i64 at_, .bool sh] w fun e w' => e = .returned (.bool true) ∧ Below w.heap.size w w' := by
  by_cases h1 : sn + n ≤ 1048576
  · by_cases h2 : n ≤ 524288
    · by_cases h3 : sn ≤ 65536
      · exact law3_main so bo sn scap n cap sy bs cn at_ sh w h3 h2 HBS HS HB
      · go_enter Try.func3, Try.ntmps3
        go_wp2_with fail
        refine (bytes5_any so bo sn scap n cap cn at_ sh true _ (by omega) (by omega) (by rw [decide_eq_true h1])).mono ?_
        rintro r w1 ⟨rfl, hB1⟩
        have hb := (boxed_below w cn).trans (Below.mono (show Below (boxed w cn).heap.size (boxed w cn) w1 from hB1) (by rw [boxed_size]; omega))
        clear hB1
        go_wp2_with fail
        go_ret
        exact ⟨rfl, hb⟩
    · go_enter Try.func3, Try.ntmps3
      go_wp2_with fail
      refine (bytes5_any so bo sn scap n cap cn at_ sh true _ (by omega) (by omega) (by rw [decide_eq_true h1])).mono ?_
      rintro r w1 ⟨rfl, hB1⟩
      have hb := (boxed_below w cn).trans (Below.mono (show Below (boxed w cn).heap.size (boxed w cn) w1 from hB1) (by rw [boxed_size]; omega))
      clear hB1
      go_wp2_with fail
      go_ret
      exact ⟨rfl, hb⟩
  · go_enter Try.func3, Try.ntmps3
    go_wp2_with fail
    refine (bytes5_any so bo sn scap n cap cn at_ sh false _ (by omega) (by omega) (by rw [decide_eq_false h1])).mono ?_
    rintro r w1 ⟨rfl, hB1⟩
    have hb := (boxed_below w cn).trans (Below.mono (show Below (boxed w cn).heap.size (boxed w cn) w1 from hB1) (by rw [boxed_size]; omega))
    clear hB1
    go_wp2_with fail
    go_ret
    exact ⟨rfl, hb⟩
end Go.Proofs.Qxb6628717a
