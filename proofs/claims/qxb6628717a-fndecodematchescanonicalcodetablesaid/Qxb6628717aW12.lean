import Derived.Test.Qxb6628717aW11
import Derived.Test.Qxb6628717aW7
namespace Go.Proofs.Qxb6628717a
open Go.RowKit Go.Deep

set_option maxRecDepth 20000 in
set_option maxHeartbeats 4000000 in
theorem law3_main (so bo : Option Addr) (sn scap n cap : Nat) (sy bs cn : Nat → Int) (at_ : Int) (sh : Bool) (w : World) (hs : sn ≤ 65536) (hn : n ≤ 524288) (HBS : Hid (∀ i, i < n → 0 ≤ bs i ∧ bs i ≤ 255)) (HS : Hid (Arg w so sn scap .i64 sy)) (HB : Hid (Arg w bo n cap .u8 bs)) :
    Calls Try.prog 3 #[arr cn, .slice so sn scap, .slice bo n cap, .int .i64 at_, .bool sh] w fun e w' => e = .returned (.bool true) ∧ Below w.heap.size w w' := by
  have hmk := fun w => run_make_row' (P := Try.prog) 23 3 (.int .i64 0) 8 Try.underlying23 info3 rfl .i64 .i64 sn (by omega) (by omega) w
  have hmk2 := fun w => run_make_row' (P := Try.prog) 24 5 (.int .u8 0) 1 Try.underlying24 info5 rfl .i64 .i64 n (by omega) (by omega) w
  have hq := fun W => run_neq_slice_nil_any (P := Try.prog) W 23 3 so sn scap 0 0 Try.underlying23
  have hq2 := fun W => run_neq_slice_nil_any (P := Try.prog) W 24 5 bo n cap 0 0 Try.underlying24
  go_enter Try.func3, Try.ntmps3
  go_wp2_with fail
  refine (bytes5_any so bo sn scap n cap cn at_ sh true _ (by omega) (by omega) (by rw [decide_eq_true (by omega)])).mono ?_
  rintro r w1 ⟨rfl, hB1⟩
  have HX1 : Hid (Bx w cn w1) := by
    have h : Below (boxed w cn).heap.size (boxed w cn) w1 := hB1
    rw [boxed_size] at h
    exact h
  clear hB1
  go_upto_if 36 with fail
  go_cut [1] (fun v wc => Hid (Cop wc v sn .i64 sy) ∧ Hid (Bx w cn wc))
  case first =>
    rcases HS.out with ⟨rfl, rfl, rfl⟩ | ⟨a, rfl, hcell⟩
    · go_wp2_with fail
      go_meet
      case rel => exact ⟨⟨none, 0, rfl, fun i hi => by omega⟩, HX1⟩
    · have hcp := copy_eq (.int .i64 0) 23 3 Try.underlying23 size3 HS.out HX1.out.below
      go_wp2_with fail
      go_meet
      case rel => exact ⟨⟨_, _, rfl, copied_nums _ _ _ _ _ _⟩, copied_bx HX1.out _ _ _ _ _⟩
  case rest =>
    obtain ⟨HC1, HX2⟩ := hcut
    clear HX1
    obtain ⟨so', sc', rfl, hN1⟩ := HC1.out
    have HN1 : Hid (Nums wc wc.heap.size so' sn .i64 sy) := hN1
    clear HC1 hN1
    go_upto_if 45 with fail
    go_cut [2] (fun v wc => Hid (Cop wc v n .u8 bs) ∧ Hid (Nums wc wc.heap.size so' sn .i64 sy) ∧ Hid (Bx w cn wc))
    case first =>
      rcases HB.out with ⟨rfl, rfl, rfl⟩ | ⟨a, rfl, hcell⟩
      · go_wp2_with fail
        go_meet
        case rel => exact ⟨⟨none, 0, rfl, fun i hi => by omega⟩, HN1, HX2⟩
      · have hcp := copy_eq (.int .u8 0) 24 5 Try.underlying24 size5 HB.out HX2.out.below
        go_wp2_with fail
        go_meet
        case rel => exact ⟨⟨_, _, rfl, copied_nums _ _ _ _ _ _⟩, (HN1.out.below (copied_below _ _ _ _ _ _)).mono (copied_below _ _ _ _ _ _).size, copied_bx HX2.out _ _ _ _ _⟩
    case rest =>
      obtain ⟨HC2, HN2, HX3⟩ := hcut
      clear HX2 HN1
      obtain ⟨bo', bc', rfl, hN3⟩ := HC2.out
      have HN3 : Hid (Nums wc wc.heap.size bo' n .u8 bs) := hN3
      clear HC2 hN3
      go_wp2_with fail
      go_loopw [13, 14] (fun vt vm wr => ∃ (m j : Nat) (t : Int), vt = .int .i64 t ∧ vm = .int .i64 m ∧ 1 ≤ m ∧ m ≤ 8 ∧ 0 ≤ t ∧ t ≤ 65536 * 8 ∧ Hid (m = j + 1 ∧ t = idx cn j ∧ t ≤ 65536 * j ∧ ∀ i, 1 ≤ i → i < m → 0 ≤ cn i ∧ cn i ≤ sn) ∧ wr = wc) (fun _ i _ => 9 - (intOf i).toNat)
      case atStart => exact ⟨1, 0, 0, rfl, rfl, by omega, by omega, by omega, by omega, ⟨rfl, rfl, by omega, fun i h1 h2 => by omega⟩, rfl⟩
      case round =>
        obtain ⟨m, j, t, rfl, rfl, m0, m1, t0, t1, HE, rfl⟩ := hrel
        by_cases hm : m < 8
        · obtain ⟨c, hc⟩ : ∃ c, c = cn m := ⟨_, rfl⟩
          have cc := HX3.out.cell m hm
          rw [← hc] at cc
          have HK : Hid (c = cn m) := hc
          clear hc
          by_cases hgood : 0 ≤ c ∧ c ≤ sn
          · obtain ⟨g0, g1⟩ := hgood
            go_wp2_with fail
            go_roundw
            case rel =>
              obtain ⟨E1, E2, E3, E4⟩ := HE.out
              have hk := HK.out
              refine ⟨m + 1, j + 1, t + c, by go_num, by go_num, by omega, by omega, by omega, by omega, ⟨by omega, by rw [idx, ← E2, ← E1, ← hk], by omega, fun i h1 h2 => ?_⟩, (by first | rfl | trivial)⟩
              by_cases hi : i = m
              · rw [hi, ← hk]; exact ⟨g0, g1⟩
              · exact E4 i h1 (by omega)
            case measure => simp [intOf]; omega
          · go_wp2_with fail
            all_goals
              go_ret
              exact ⟨rfl, HX3.out.below⟩
        · have hm8 : m = 8 := by omega
          subst hm8
          obtain ⟨E1, E2, E3, E4⟩ := HE.out
          have hj7 : j = 7 := by omega
          subst hj7
          have HT : Hid (t = idx cn 7) := E2
          have HG : Hid (∀ i, 1 ≤ i → i < 8 → 0 ≤ cn i ∧ cn i ≤ sn) := E4
          clear E1 E2 E3 E4 HE
          by_cases ht : t ≤ sn
          · by_cases hat : 0 ≤ at_ ∧ at_ ≤ 8 * n
            · obtain ⟨hat0, hat1⟩ := hat
              have HAT : Hid (0 ≤ at_ ∧ at_ ≤ 8 * n) := ⟨hat0, hat1⟩
              have HXr : Hid (Bx w cn wr) := HX3
              have HC : Hid (∀ j, 1 ≤ j → j < 8 → 0 ≤ cn j ∧ cn j ≤ 65536) := fun j h1 h2 => by have := HG.out j h1 h2; omega
              have HI1 : Hid (Inp wr so' bo' sn n sy bs cn at_) := ⟨HN2.out, HN3.out, HBS.out, hn, hs, HC.out, by rw [← HT.out]; exact ht, HAT.out.1, HAT.out.2⟩
              obtain ⟨b0, b1, b2, b3, b4, b5, b6, b7⟩ := HXr.out.box
              rcases hit_or_miss cn bs n at_ with ⟨k, HK0⟩ | HM0
              · have HH : Hid (Hit cn bs n at_ k) := HK0
                have hk7 : k < 7 := HK0.1
                obtain ⟨y, hy⟩ : ∃ y, y = sy (idx cn k + val bs n at_ (k + 1) - fst cn k).toNat := ⟨_, rfl⟩
                obtain ⟨u, hu⟩ : ∃ u : Nat, u = k + 1 := ⟨_, rfl⟩
                have hu7 : u ≤ 7 := by omega
                obtain ⟨p, hp⟩ : ∃ p, p = pos n at_ u := ⟨_, rfl⟩
                obtain ⟨q, hq⟩ : ∃ q, q = shs n at_ sh u := ⟨_, rfl⟩
                have HD1 : Hid (Calls Try.prog 6 #[arr cn, .slice so' sn sc', .slice bo' n bc', .int .i64 at_, .bool sh] wr fun e w' => e = .returned (.tuple #[.int .i64 y, .int .i64 p, .bool q]) ∧ Below wr.heap.size wr w') := by
                  have h := zdecode_hit so' bo' sn sc' n bc' k sy bs cn at_ sh wr HI1 HH
                  rw [← hy, ← hu, ← hp, ← hq] at h
                  exact h
                have HMD : Hid (∀ w3, Inp w3 so' bo' sn n sy bs cn at_ → Calls Try.prog 7 #[arr cn, .slice so' sn sc', .slice bo' n bc', .int .i64 at_] w3 fun e w' => e = .returned (.tuple #[.int .i64 y, .int .i64 u]) ∧ Below w3.heap.size w3 w') := fun w3 HI2 => by
                  have h := model_hit so' bo' sn sc' n bc' k sy bs cn at_ w3 HI2 HH
                  rw [← hy, ← hu] at h
                  exact h
                have hps : (at_ + u ≤ 8 * n → p = at_ + u ∧ q = sh) ∧ (8 * n < at_ + u → p = 8 * n ∧ q = true) := by
                  rw [hp, hq]
                  refine ⟨fun h => ⟨if_pos h, ?_⟩, fun h => ⟨if_neg (by omega), ?_⟩⟩
                  · unfold shs; rw [decide_eq_false (by omega), Bool.or_false]
                  · unfold shs; rw [decide_eq_true h, Bool.or_true]
                clear hp hq hy hu
                go_wp2_with fail
                refine HD1.out.mono ?_
                rintro r w3 ⟨rfl, hB3⟩
                clear b0 b1 b2 b3 b4 b5 b6 b7
                have HX3' : Hid (Bx w cn w3) := HXr.out.next (hB3.mono HXr.out.lt)
                obtain ⟨b0, b1, b2, b3, b4, b5, b6, b7⟩ := HX3'.out.box
                have HI2 : Hid (Inp w3 so' bo' sn n sy bs cn at_) := ⟨(HI1.out.sym.below hB3).mono hB3.size, (HI1.out.byt.below hB3).mono hB3.size, HBS.out, hn, hs, HC.out, HI1.out.ht, HAT.out.1, HAT.out.2⟩
                go_wp2_with fail
                refine (HMD.out _ HI2.out).mono ?_
                rintro r w4 ⟨rfl, hB4⟩
                clear b0 b1 b2 b3 b4 b5 b6 b7
                have HBB : Hid (Below w.heap.size w w4) := (HX3'.out.next (hB4.mono HX3'.out.lt)).below
                by_cases hlong : at_ + u ≤ 8 * n
                · obtain ⟨rfl, rfl⟩ := hps.1 hlong
                  clear hps
                  go_wp2_with fail
                  go_ret
                  exact ⟨rfl, HBB.out⟩
                · obtain ⟨rfl, rfl⟩ := hps.2 (by omega)
                  clear hps
                  go_wp2_with fail
                  go_ret
                  exact ⟨rfl, HBB.out⟩
              · have HH : Hid (Miss cn bs n at_) := HM0
                obtain ⟨y, hy⟩ : ∃ y : Int, y = -1 := ⟨_, rfl⟩
                obtain ⟨u, hu⟩ : ∃ u : Nat, u = 7 := ⟨_, rfl⟩
                have hu7 : u ≤ 7 := by omega
                obtain ⟨p, hp⟩ : ∃ p, p = pos n at_ u := ⟨_, rfl⟩
                obtain ⟨q, hq⟩ : ∃ q, q = shs n at_ sh u := ⟨_, rfl⟩
                have HD1 : Hid (Calls Try.prog 6 #[arr cn, .slice so' sn sc', .slice bo' n bc', .int .i64 at_, .bool sh] wr fun e w' => e = .returned (.tuple #[.int .i64 y, .int .i64 p, .bool q]) ∧ Below wr.heap.size wr w') := by
                  have h := zdecode_miss so' bo' sn sc' n bc' sy bs cn at_ sh wr HI1 HH
                  rw [← hy, ← hu, ← hp, ← hq] at h
                  exact h
                have HMD : Hid (∀ w3, Inp w3 so' bo' sn n sy bs cn at_ → Calls Try.prog 7 #[arr cn, .slice so' sn sc', .slice bo' n bc', .int .i64 at_] w3 fun e w' => e = .returned (.tuple #[.int .i64 y, .int .i64 u]) ∧ Below w3.heap.size w3 w') := fun w3 HI2 => by
                  have h := model_miss so' bo' sn sc' n bc' sy bs cn at_ w3 HI2 HH
                  rw [← hy, show (7 : Int) = (u : Int) by omega] at h
                  exact h
                have hps : (at_ + u ≤ 8 * n → p = at_ + u ∧ q = sh) ∧ (8 * n < at_ + u → p = 8 * n ∧ q = true) := by
                  rw [hp, hq]
                  refine ⟨fun h => ⟨if_pos h, ?_⟩, fun h => ⟨if_neg (by omega), ?_⟩⟩
                  · unfold shs; rw [decide_eq_false (by omega), Bool.or_false]
                  · unfold shs; rw [decide_eq_true h, Bool.or_true]
                clear hp hq hy hu
                go_wp2_with fail
                refine HD1.out.mono ?_
                rintro r w3 ⟨rfl, hB3⟩
                clear b0 b1 b2 b3 b4 b5 b6 b7
                have HX3' : Hid (Bx w cn w3) := HXr.out.next (hB3.mono HXr.out.lt)
                obtain ⟨b0, b1, b2, b3, b4, b5, b6, b7⟩ := HX3'.out.box
                have HI2 : Hid (Inp w3 so' bo' sn n sy bs cn at_) := ⟨(HI1.out.sym.below hB3).mono hB3.size, (HI1.out.byt.below hB3).mono hB3.size, HBS.out, hn, hs, HC.out, HI1.out.ht, HAT.out.1, HAT.out.2⟩
                go_wp2_with fail
                refine (HMD.out _ HI2.out).mono ?_
                rintro r w4 ⟨rfl, hB4⟩
                clear b0 b1 b2 b3 b4 b5 b6 b7
                have HBB : Hid (Below w.heap.size w w4) := (HX3'.out.next (hB4.mono HX3'.out.lt)).below
                by_cases hlong : at_ + u ≤ 8 * n
                · obtain ⟨rfl, rfl⟩ := hps.1 hlong
                  clear hps
                  go_wp2_with fail
                  go_ret
                  exact ⟨rfl, HBB.out⟩
                · obtain ⟨rfl, rfl⟩ := hps.2 (by omega)
                  clear hps
                  go_wp2_with fail
                  go_ret
                  exact ⟨rfl, HBB.out⟩
            · go_wp2_with fail
              all_goals
                go_ret
                exact ⟨rfl, HX3.out.below⟩
          · go_wp2_with fail
            go_ret
            exact ⟨rfl, HX3.out.below⟩
end Go.Proofs.Qxb6628717a
