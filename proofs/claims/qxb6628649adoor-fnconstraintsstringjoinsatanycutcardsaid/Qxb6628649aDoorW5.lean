import Derived.Test.Qxb6628649aDoorW3
import Derived.Test.Qxb6628649aDoorW4
namespace Go.Proofs.Qxb6628649aDoor
open Go.RowKit

set_option maxHeartbeats 400000 in
theorem one_any (c : Cnd) (w : World) :
    Calls Tryd.prog 12 #[.string c.op, .int .i64 c.ma, .int .i64 c.mi, .int .i64 c.pa, .string c.pre, .int .i64 c.pt] w fun e w' => ∃ b, e = .returned (.slice (some ⟨b, 0, none⟩) 1 1) ∧ b < w'.heap.size ∧ HoldsC w' b 0 [c] ∧ Below w.heap.size w w' := by
  go_enter Tryd.func12, Tryd.ntmps12
  go_wp2_with fail
  refine (cond_any _ _ _ _ _ _ _).mono ?_
  rintro e w1 ⟨rfl, hb1⟩
  go_wp2_with fail
  go_ret
  refine ⟨w1.heap.size, rfl, by simp, ?_, hb1.alloc hb1.size _⟩
  intro k d hd
  match k, hd with
  | 0, hd =>
    obtain rfl : c = d := Option.some.inj hd
    simp
  | k + 1, hd => simp at hd

set_option maxHeartbeats 400000 in
theorem bytes_any (op pre : ByteArray) (ma mi pa pt : Int) (w : World) (ho : op.size ≤ maxLen) (hp : pre.size ≤ maxLen) :
    Calls Tryd.prog 11 #[.string op, .int .i64 ma, .int .i64 mi, .int .i64 pa, .string pre, .int .i64 pt] w fun e w' => e = .returned (.bool (decide (op.size + pre.size ≤ 1048576))) ∧ w' = w := by
  unfold maxLen at ho hp
  by_cases h1 : op.size ≤ 1048576
  · by_cases h2 : pre.size ≤ 1048576
    · by_cases h3 : op.size + pre.size ≤ 1048576
      · go_enter Tryd.func11, Tryd.ntmps11
        go_wp2
        go_ret
        exact ⟨by simp [h3], rfl⟩
      · go_enter Tryd.func11, Tryd.ntmps11
        go_wp2
        go_ret
        have n3 : ¬ op.size + pre.size ≤ 1048576 := by omega
        exact ⟨by simp [n3], rfl⟩
    · go_enter Tryd.func11, Tryd.ntmps11
      go_wp2
      go_ret
      have n3 : ¬ op.size + pre.size ≤ 1048576 := by omega
      exact ⟨by simp [n3], rfl⟩
  · go_enter Tryd.func11, Tryd.ntmps11
    go_wp2
    go_ret
    have n3 : ¬ op.size + pre.size ≤ 1048576 := by omega
    exact ⟨by simp [n3], rfl⟩
theorem HoldsC.below {w w' : World} {b o B : Nat} {cs : List Cnd} (h : HoldsC w b o cs) (hb : Below B w w') (hB : b < B) : HoldsC w' b o cs := by
  intro k c hk
  obtain ⟨q0, q1, q2, q3, q4, q5⟩ := h k c hk
  have cc : ∀ j, w'.cell? ⟨b, j, none⟩ = w.cell? ⟨b, j, none⟩ := fun j => hb.cell (p := ⟨b, j, none⟩) hB
  exact ⟨(cc _).trans q0, (cc _).trans q1, (cc _).trans q2, (cc _).trans q3, (cc _).trans q4, (cc _).trans q5⟩

theorem consB_one (c : Cnd) : consB [c] = c.str := by
  simp [consB, Lib.join_one]

/-- The text of one condition. -/
theorem oneS_any (c : Cnd) (X : ByteArray) (hX : c.str = X) (b cap : Nat) (w : World) (hb : b < w.heap.size) (hC : HoldsC w b 0 [c]) (hok : c.Ok) (htab : Tab w) :
    Calls Tryd.prog 8 #[.slice (some ⟨b, 0, none⟩) 1 cap] w fun e w' => e = .returned (.string X) ∧ Below w.heap.size w w' := by
  have := consS_any [c] b 0 cap w (by simp) hb hC (by simpa using hok) htab
  rwa [consB_one, hX] at this

end Go.Proofs.Qxb6628649aDoor
