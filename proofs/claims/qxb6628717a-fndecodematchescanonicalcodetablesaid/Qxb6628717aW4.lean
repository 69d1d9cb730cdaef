import Derived.Test.Qxb6628717aW3
namespace Go.Proofs.Qxb6628717a
open Go.RowKit

abbrev arr (cn : Nat → Int) : Value := .agg #[.int .i64 (cn 0), .int .i64 (cn 1), .int .i64 (cn 2), .int .i64 (cn 3), .int .i64 (cn 4), .int .i64 (cn 5), .int .i64 (cn 6), .int .i64 (cn 7)]

/-- What the law hands to ZZdecode. -/
structure Inp (w : World) (so bo : Option Addr) (sn n : Nat) (sy bs cn : Nat → Int) (at_ : Int) : Prop where
  sym : Nums w w.heap.size so sn .i64 sy
  byt : Nums w w.heap.size bo n .u8 bs
  hb : ∀ i, i < n → 0 ≤ bs i ∧ bs i ≤ 255
  hn : n ≤ 524288
  hs : sn ≤ 65536
  hc : ∀ j, 1 ≤ j → j < 8 → 0 ≤ cn j ∧ cn j ≤ 65536
  ht : idx cn 7 ≤ sn
  a0 : 0 ≤ at_
  a1 : at_ ≤ 8 * n

theorem laid_below (w : World) (o1 o2 o3 : Obj) : Below w.heap.size w (((w.alloc o1).alloc o2).alloc o3) :=
  (((Below.refl _ w).alloc (Nat.le_refl _) o1).alloc (by simp) o2).alloc (by simp; omega) o3

theorem laid_ctx (so bo : Option Addr) (sn scap n cap : Nat) (sy bs cn : Nat → Int) (at_ : Int) (sh : Bool) (w : World) (h : Inp w so bo sn n sy bs cn at_) :
    Ctx (((w.alloc (.cells #[.int .i64 (cn 0), .int .i64 (cn 1), .int .i64 (cn 2), .int .i64 (cn 3), .int .i64 (cn 4), .int .i64 (cn 5), .int .i64 (cn 6), .int .i64 (cn 7)] 22)).alloc
    (.cells #[.int .i64 (cn 0), .int .i64 (cn 1), .int .i64 (cn 2), .int .i64 (cn 3), .int .i64 (cn 4), .int .i64 (cn 5), .int .i64 (cn 6), .int .i64 (cn 7), .slice so sn scap] 33)).alloc
    (.cells #[.slice bo n cap, .int .i64 at_, .bool sh] 36)) (w.heap.size + 1) (w.heap.size + 1 + 1) so bo sn scap n cap sy bs cn ∧ Rd (((w.alloc (.cells #[.int .i64 (cn 0), .int .i64 (cn 1), .int .i64 (cn 2), .int .i64 (cn 3), .int .i64 (cn 4), .int .i64 (cn 5), .int .i64 (cn 6), .int .i64 (cn 7)] 22)).alloc
    (.cells #[.int .i64 (cn 0), .int .i64 (cn 1), .int .i64 (cn 2), .int .i64 (cn 3), .int .i64 (cn 4), .int .i64 (cn 5), .int .i64 (cn 6), .int .i64 (cn 7), .slice so sn scap] 33)).alloc
    (.cells #[.slice bo n cap, .int .i64 at_, .bool sh] 36)) (w.heap.size + 1 + 1) (.slice bo n cap) at_ sh := by
  have hb := laid_below w (.cells #[.int .i64 (cn 0), .int .i64 (cn 1), .int .i64 (cn 2), .int .i64 (cn 3), .int .i64 (cn 4), .int .i64 (cn 5), .int .i64 (cn 6), .int .i64 (cn 7)] 22) (.cells #[.int .i64 (cn 0), .int .i64 (cn 1), .int .i64 (cn 2), .int .i64 (cn 3), .int .i64 (cn 4), .int .i64 (cn 5), .int .i64 (cn 6), .int .i64 (cn 7), .slice so sn scap] 33) (.cells #[.slice bo n cap, .int .i64 at_, .bool sh] 36)
  refine ⟨⟨fun j hj => ?_, ?_, by omega, (h.sym.below hb).mono (by omega), (h.byt.below hb).mono (by omega), h.hb, h.hn, h.hs, h.hc, h.ht⟩, ⟨?_, ?_, ?_, fun j => ?_, ?_⟩⟩
  · rcases (by omega : j = 0 ∨ j = 1 ∨ j = 2 ∨ j = 3 ∨ j = 4 ∨ j = 5 ∨ j = 6 ∨ j = 7) with rfl | rfl | rfl | rfl | rfl | rfl | rfl | rfl <;> simp [go_sem]
  all_goals simp [go_sem]

set_option maxHeartbeats 1000000 in
theorem zdecode_hit (so bo : Option Addr) (sn scap n cap k : Nat) (sy bs cn : Nat → Int) (at_ : Int) (sh : Bool) (w : World) (HI : Hid (Inp w so bo sn n sy bs cn at_)) (HH : Hid (Hit cn bs n at_ k)) :
    Calls Try.prog 6 #[arr cn, .slice so sn scap, .slice bo n cap, .int .i64 at_, .bool sh] w fun e w' => e = .returned (.tuple #[.int .i64 (sy (idx cn k + val bs n at_ (k + 1) - fst cn k).toNat), .int .i64 (pos n at_ (k + 1)), .bool (shs n at_ sh (k + 1))]) ∧ Below w.heap.size w w' := by
  go_enter Try.func6, Try.ntmps6
  go_wp2_with fail
  have hL := laid_ctx so bo sn scap n cap sy bs cn at_ sh w HI.out
  have hb := laid_below w (.cells #[.int .i64 (cn 0), .int .i64 (cn 1), .int .i64 (cn 2), .int .i64 (cn 3), .int .i64 (cn 4), .int .i64 (cn 5), .int .i64 (cn 6), .int .i64 (cn 7)] 22) (.cells #[.int .i64 (cn 0), .int .i64 (cn 1), .int .i64 (cn 2), .int .i64 (cn 3), .int .i64 (cn 4), .int .i64 (cn 5), .int .i64 (cn 6), .int .i64 (cn 7), .slice so sn scap] 33) (.cells #[.slice bo n cap, .int .i64 at_, .bool sh] 36)
  refine (decode_hit _ _ so bo sn scap n cap k sy bs cn at_ sh _ hL.1 hL.2 HI.out.a0 HI.out.a1 HH.out).mono ?_
  rintro r w1 ⟨rfl, hR, hB⟩
  have hBB : Hid (Below w.heap.size w w1) := hb.trans (hB.mono (by omega))
  have r1 := hR.c1
  have r2 := hR.c2
  clear hL hb hB hR
  go_wp2
  go_quiet (fail)
  go_wp2
  exact bodyPost_ret (v := .tuple #[.int .i64 (sy (idx cn k + val bs n at_ (k + 1) - fst cn k).toNat), .int .i64 (pos n at_ (k + 1)), .bool (shs n at_ sh (k + 1))]) (by simp [results, Try.results6, go_sem]) rfl ⟨rfl, below_drewN hBB.out _⟩

set_option maxHeartbeats 1000000 in
theorem zdecode_miss (so bo : Option Addr) (sn scap n cap : Nat) (sy bs cn : Nat → Int) (at_ : Int) (sh : Bool) (w : World) (HI : Hid (Inp w so bo sn n sy bs cn at_)) (HH : Hid (Miss cn bs n at_)) :
    Calls Try.prog 6 #[arr cn, .slice so sn scap, .slice bo n cap, .int .i64 at_, .bool sh] w fun e w' => e = .returned (.tuple #[.int .i64 (-1), .int .i64 (pos n at_ 7), .bool (shs n at_ sh 7)]) ∧ Below w.heap.size w w' := by
  go_enter Try.func6, Try.ntmps6
  go_wp2_with fail
  have hL := laid_ctx so bo sn scap n cap sy bs cn at_ sh w HI.out
  have hb := laid_below w (.cells #[.int .i64 (cn 0), .int .i64 (cn 1), .int .i64 (cn 2), .int .i64 (cn 3), .int .i64 (cn 4), .int .i64 (cn 5), .int .i64 (cn 6), .int .i64 (cn 7)] 22) (.cells #[.int .i64 (cn 0), .int .i64 (cn 1), .int .i64 (cn 2), .int .i64 (cn 3), .int .i64 (cn 4), .int .i64 (cn 5), .int .i64 (cn 6), .int .i64 (cn 7), .slice so sn scap] 33) (.cells #[.slice bo n cap, .int .i64 at_, .bool sh] 36)
  refine (decode_miss _ _ so bo sn scap n cap sy bs cn at_ sh _ hL.1 hL.2 HI.out.a0 HI.out.a1 HH.out).mono ?_
  rintro r w1 ⟨rfl, hR, hB⟩
  have hBB : Hid (Below w.heap.size w w1) := hb.trans (hB.mono (by omega))
  have r1 := hR.c1
  have r2 := hR.c2
  clear hL hb hB hR
  go_wp2
  go_quiet (fail)
  go_wp2
  exact bodyPost_ret (v := .tuple #[.int .i64 (-1), .int .i64 (pos n at_ (7)), .bool (shs n at_ sh (7))]) (by simp [results, Try.results6, go_sem]) rfl ⟨rfl, below_drewN hBB.out _⟩
end Go.Proofs.Qxb6628717a
