import Derived.Test.Qxb6628649aDoorW6
namespace Go.Proofs.Qxb6628649aDoor
open Go.RowKit

theorem condB_eq (ma mi pa : Int) (pre : ByteArray) (pt : Int) : condB ⟨#[61]⟩ ma mi pa pre pt = verB ma mi pa pre pt := by
  have h : ((⟨#[61]⟩ : ByteArray).toList == [61]) = true := by rw [Lib.toList_data]; rfl
  rw [condB, if_pos h]

theorem noBytes : (⟨#[]⟩ : ByteArray).toList.isEmpty = true := by rw [Lib.toList_data]; rfl

theorem verB_bare (ma mi pa : Int) (pre : ByteArray) (pt : Int) (h : pre.toList.isEmpty = true) : verB ma mi pa pre pt = verB ma mi pa ⟨#[]⟩ pt := by
  simp only [verB, h, noBytes, if_true]
theorem verB_pre (ma mi pa : Int) (pre : ByteArray) (pt : Int) (h : pre.toList.isEmpty = false) : verB ma mi pa pre pt = verB ma mi pa ⟨#[]⟩ pt ++ ⟨#[45]⟩ ++ pre := by
  simp only [verB, h, noBytes, if_true, Bool.false_eq_true, if_false, ByteArray.append_assoc]
theorem verB_lt (ma mi pa pt : Int) (h : pt < 2) : verB ma mi pa ⟨#[]⟩ pt = itoaB ma := by
  have n2 : ¬ 2 ≤ pt := by omega
  have n3 : ¬ 3 ≤ pt := by omega
  simp only [verB, n2, n3, noBytes, if_true, if_false]
theorem verB_two (ma mi pa pt : Int) (h : pt = 2) : verB ma mi pa ⟨#[]⟩ pt = itoaB ma ++ ⟨#[46]⟩ ++ itoaB mi := by
  have n2 : 2 ≤ pt := by omega
  have n3 : ¬ 3 ≤ pt := by omega
  simp only [verB, n2, n3, noBytes, if_true, if_false, ByteArray.append_assoc]
theorem verB_gt (ma mi pa pt : Int) (h : 2 < pt) : verB ma mi pa ⟨#[]⟩ pt = itoaB ma ++ ⟨#[46]⟩ ++ itoaB mi ++ ⟨#[46]⟩ ++ itoaB pa := by
  have n2 : 2 ≤ pt := by omega
  have n3 : 3 ≤ pt := by omega
  simp only [verB, n2, n3, noBytes, if_true, ByteArray.append_assoc]

theorem beq_of {a b : ByteArray} (h : a = b) : (a.toList == b.toList) = true := by rw [h]; exact beq_self_eq_true _

/-- The law at inputs that are short enough. -/
theorem law_short (op pre : ByteArray) (ma mi pa pt : Int) (w : World)
    (a0 : -9223372036854775808 ≤ ma) (a1 : ma ≤ 9223372036854775807) (b0 : -9223372036854775808 ≤ mi) (b1 : mi ≤ 9223372036854775807)
    (c0 : -9223372036854775808 ≤ pa) (c1 : pa ≤ 9223372036854775807) (htab : Tab w) (hsz : op.size + pre.size ≤ 1048576) :
    Calls Tryd.prog 4 #[.string op, .int .i64 ma, .int .i64 mi, .int .i64 pa, .string pre, .int .i64 pt] w fun e w' => e = .returned (.bool true) ∧ Below w.heap.size w w' := by
  have h0 : (⟨#[]⟩ : ByteArray).size = 0 := rfl
  have z0 := verB_size ma mi pa pre pt a0 a1 b0 b1 c0 c1
  have z1 := verB_size ma mi pa ⟨#[]⟩ pt a0 a1 b0 b1 c0 c1
  have z2 := verB_size ma mi pa ⟨#[]⟩ 1 a0 a1 b0 b1 c0 c1
  have z3 := verB_size ma mi pa ⟨#[]⟩ 2 a0 a1 b0 b1 c0 c1
  refine law_core op pre (condB op ma mi pa pre pt) (verB ma mi pa pre pt) (verB ma mi pa ⟨#[]⟩ pt) (verB ma mi pa ⟨#[]⟩ 1) (verB ma mi pa ⟨#[]⟩ 2) (verB ma mi pa ⟨#[]⟩ 3) ma mi pa pt w a0 a1 b0 b1 c0 c1 htab hsz
    rfl (condB_eq ..) (condB_eq ..) (condB_eq ..) (condB_eq ..) (condB_eq ..) ?_ ?_ ?_ ?_ ?_ ?_ ?_ ?_ ?_ ?_ (by omega) (by omega) (by omega) (by omega)
  · intro h; exact beq_of (by rw [condB, if_pos h])
  · intro h; exact beq_of (by rw [condB, if_neg (by rw [h]; decide)])
  · intro h; exact beq_of (verB_bare _ _ _ _ _ h)
  · intro h; exact beq_of (verB_pre _ _ _ _ _ h)
  · exact beq_of (verB_lt _ _ _ _ (by decide))
  · exact beq_of (by rw [verB_lt _ _ _ 1 (by decide), verB_two _ _ _ 2 rfl])
  · exact beq_of (by rw [verB_two _ _ _ 2 rfl, verB_gt _ _ _ 3 (by decide)])
  · intro h; exact beq_of (by rw [verB_lt _ _ _ _ h, verB_lt _ _ _ 1 (by decide)])
  · intro h; exact beq_of (by rw [h])
  · intro h; exact beq_of (by rw [verB_gt _ _ _ _ h, verB_gt _ _ _ 3 (by decide)])

set_option maxHeartbeats 400000 in
theorem law_long (op pre : ByteArray) (ma mi pa pt : Int) (w : World) (ho : op.size ≤ maxLen) (hp : pre.size ≤ maxLen) (hsz : ¬ op.size + pre.size ≤ 1048576) :
    Calls Tryd.prog 4 #[.string op, .int .i64 ma, .int .i64 mi, .int .i64 pa, .string pre, .int .i64 pt] w fun e w' => e = .returned (.bool true) ∧ Below w.heap.size w w' := by
  have hbt : decide (op.size + pre.size ≤ 1048576) = false := by simpa using hsz
  go_enter Tryd.func4, Tryd.ntmps4
  go_wp2_with fail
  refine (bytes_any _ _ _ _ _ _ _ ho hp).mono ?_
  rintro e w0 ⟨rfl, rfl⟩
  go_wp2_with fail
  go_ret
  exact ⟨rfl, Below.refl _ _⟩

theorem law_any (op pre : ByteArray) (ma mi pa pt : Int) (w : World) (ho : op.size ≤ maxLen) (hp : pre.size ≤ maxLen)
    (a0 : -9223372036854775808 ≤ ma) (a1 : ma ≤ 9223372036854775807) (b0 : -9223372036854775808 ≤ mi) (b1 : mi ≤ 9223372036854775807)
    (c0 : -9223372036854775808 ≤ pa) (c1 : pa ≤ 9223372036854775807) (htab : Tab w) :
    Calls Tryd.prog 4 #[.string op, .int .i64 ma, .int .i64 mi, .int .i64 pa, .string pre, .int .i64 pt] w fun e w' => e = .returned (.bool true) ∧ Below w.heap.size w w' := by
  by_cases h : op.size + pre.size ≤ 1048576
  · exact law_short op pre ma mi pa pt w a0 a1 b0 b1 c0 c1 htab h
  · exact law_long op pre ma mi pa pt w ho hp h

end Go.Proofs.Qxb6628649aDoor
