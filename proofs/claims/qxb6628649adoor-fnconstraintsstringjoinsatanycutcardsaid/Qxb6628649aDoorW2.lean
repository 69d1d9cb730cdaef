import Derived.Test.Qxb6628649aDoorW1
namespace Go.Proofs.Qxb6628649aDoor
open Go.RowKit

set_option maxHeartbeats 1600000 in
theorem condS_any (op pre : ByteArray) (ma mi pa pt : Int) (w : World)  (a0 : -9223372036854775808 ≤ ma) (a1 : ma ≤ 9223372036854775807) (b0 : -9223372036854775808 ≤ mi) (b1 : mi ≤ 9223372036854775807)
    (c0 : -9223372036854775808 ≤ pa) (c1 : pa ≤ 9223372036854775807) (hop : op.size ≤ 1048576) (hpre : pre.size ≤ 1048576) (htab : Tab w) :
    Calls Tryd.prog 14 #[.agg #[.string op, .int .i64 ma, .int .i64 mi, .int .i64 pa, .string pre, .int .i64 pt]] w fun e w' => e = .returned (.string (condB op ma mi pa pre pt)) ∧ Below w.heap.size w w' := by
  have s1 := verB_size ma mi pa pre pt a0 a1 b0 b1 c0 c1
  cases ho : (op.toList == [61])
  · go_enter Tryd.func14, Tryd.ntmps14
    go_wp2_with fail
    go_region_with (go_at_call 16; refine (ver_any pre ma mi pa pt _ a0 a1 b0 b1 c0 c1 hpre ((htab.alloc _).drew)).mono ?_; rintro e w1 ⟨rfl, hb1⟩; have hc : ∀ o, w1.cell? ⟨w.heap.size, o, none⟩ = _ := fun o => hb1.cell (p := ⟨w.heap.size, o, none⟩) (by simp))
    all_goals
      go_wp2
      go_ret
      refine ⟨?_, ?_⟩
      · show Ending.returned (Value.string _) = _
        simp only [condB, ho, if_false, Bool.false_eq_true]
      · exact ((Below.refl _ w).alloc (Nat.le_refl _) _).drew.trans (hb1.mono (by simp))
  · go_enter Tryd.func14, Tryd.ntmps14
    go_wp2_with fail
    refine (ver_any pre ma mi pa pt _ a0 a1 b0 b1 c0 c1 hpre (htab.alloc _)).mono ?_
    rintro e w1 ⟨rfl, hb1⟩
    go_wp2_with fail
    go_ret
    refine ⟨?_, ?_⟩
    · show Ending.returned (Value.string _) = _
      simp only [condB, ho, if_true]
    · exact ((Below.refl _ w).alloc (Nat.le_refl _) _).trans (hb1.mono (by simp))
end Go.Proofs.Qxb6628649aDoor
