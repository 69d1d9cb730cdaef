import Derived.Test.Qxb6628717aW6
namespace Go.Proofs.Qxb6628717a
open Go.RowKit Go.Deep

theorem hit_or_miss (cn bs : Nat → Int) (n : Nat) (at_ : Int) : (∃ k, Hit cn bs n at_ k) ∨ Miss cn bs n at_ := by
  have h : ∀ q, q ≤ 7 → (∃ k, Hit cn bs n at_ k) ∨ ∀ j, j < q → fst cn j + cn (j + 1) ≤ val bs n at_ (j + 1) := by
    intro q
    induction q with
    | zero => intro _; exact .inr (fun j hj => by omega)
    | succ q ih =>
      intro hq
      rcases ih (by omega) with h | h
      · exact .inl h
      · by_cases hv : fst cn q + cn (q + 1) ≤ val bs n at_ (q + 1)
        · right
          intro j hj
          by_cases e : j = q
          · rw [e]; exact hv
          · exact h j (by omega)
        · exact .inl ⟨q, by omega, h, by omega⟩
  exact h 7 (Nat.le_refl _)

/-- The world while the indices are laid. -/
structure Fill (wc : World) (sn i : Nat) (wr : World) : Prop where
  cell : ∀ j, j < sn → wr.cell? ⟨wc.heap.size, j, none⟩ = some (.int .i64 (if j < i then (j : Int) else 0))
  free : ∀ j, wr.frozen? ⟨wc.heap.size, j, none⟩ = false
  lt : wc.heap.size < wr.heap.size
  below : Below wc.heap.size wc wr

theorem Fill.start (wc : World) (sn : Nat) : Fill wc sn 0 (wc.alloc (.cells (madeCells #[.int .i64 0] sn) 3)) := by
  refine ⟨fun j hj => ?_, fun j => ?_, by simp, (Below.refl _ _).alloc (Nat.le_refl _) _⟩
  · rw [World.cell?_alloc_at _ _ _ _ rfl]
    simp [madeCells, hj, Nat.mod_one]
  · rw [World.frozen?_alloc_at _ _ _ _ rfl]

theorem Fill.next {wc wr : World} {sn i : Nat} (h : Fill wc sn i wr) (hi : i < sn) : Fill wc sn (i + 1) (wr.setCell ⟨wc.heap.size, i, none⟩ (.int .i64 i)) := by
  refine ⟨fun j hj => ?_, fun j => ?_, by simpa using h.lt, h.below.setCell (Nat.le_refl _) _⟩
  · by_cases e : j = i
    · subst e
      rw [World.cell?_setCell_same _ _ _ (h.cell j hj)]
      simp
    · rw [World.cell?_setCell_other _ _ _ _ (by intro hh; cases hh; exact e rfl), h.cell j hj]
      by_cases h2 : j < i
      · rw [if_pos h2, if_pos (by omega)]
      · rw [if_neg h2, if_neg (by omega)]
  · rw [World.frozen?_setCell]; exact h.free j

theorem Fill.nums {wc wr : World} {sn : Nat} (h : Fill wc sn sn wr) : Nums wr wr.heap.size (some ⟨wc.heap.size, 0, none⟩) sn .i64 (fun i => (i : Int)) := by
  intro i hi
  exact ⟨wc.heap.size, rfl, h.lt, by rw [h.cell i hi, if_pos hi]⟩

theorem idx_succ_le (cn : Nat → Int) (sn : Nat) (hs : sn ≤ 65536) (h : ∀ i, 1 ≤ i → i < 8 → 0 ≤ cn i ∧ cn i ≤ sn) (k : Nat) (hk : k < 7) : 0 ≤ idx cn k ∧ idx cn k + cn (k + 1) ≤ idx cn 7 := by
  have h' : ∀ j, 1 ≤ j → j < 8 → 0 ≤ cn j ∧ cn j ≤ 65536 := fun j h1 h2 => by have := h j h1 h2; omega
  have h1 := idx_le cn h' k (by omega)
  have h2 := idx_le cn h' (k + 1) (by omega)
  rw [idx] at h2
  exact ⟨h1.1, h2.2⟩

theorem hit_x (cn bs : Nat → Int) (n sn : Nat) (at_ : Int) (k : Nat) (hs : sn ≤ 65536) (h : ∀ i, 1 ≤ i → i < 8 → 0 ≤ cn i ∧ cn i ≤ sn) (hh : Hit cn bs n at_ k) :
    idx cn k ≤ ((idx cn k + val bs n at_ (k + 1) - fst cn k).toNat : Int) ∧ ((idx cn k + val bs n at_ (k + 1) - fst cn k).toNat : Int) < idx cn k + cn (k + 1) ∧ ((idx cn k + val bs n at_ (k + 1) - fst cn k).toNat : Int) < idx cn 7 := by
  obtain ⟨h1, h2, h3⟩ := hh
  have h4 := idx_succ_le cn sn hs h k h1
  have h5 := fst_le cn bs n at_ k h2
  omega

theorem miss_kraft (cn bs : Nat → Int) (n : Nat) (at_ : Int) (h : Miss cn bs n at_) : 64 * cn 1 + 32 * cn 2 + 16 * cn 3 + 8 * cn 4 + 4 * cn 5 + 2 * cn 6 + cn 7 < 128 := by
  have h1 := h 6 (by omega)
  have h2 := val_bd bs n at_ 7 (by omega)
  simp only [fst, Nat.reduceAdd] at h1
  omega

theorem pos_in (n : Nat) (at_ : Int) (k : Nat) (hk : k ≤ 7) (h : at_ + 7 ≤ 8 * n) : pos n at_ k - at_ = k ∧ at_ ≤ pos n at_ k ∧ pos n at_ k ≤ at_ + 7 := by
  unfold pos
  rw [if_pos (by omega)]
  omega

/-- The array's cells. -/
structure Box (w : World) (b : Nat) (cn : Nat → Int) : Prop where
  b0 : w.cell? ⟨b, 0, none⟩ = some (.int .i64 (cn 0))
  b1 : w.cell? ⟨b, 1, none⟩ = some (.int .i64 (cn 1))
  b2 : w.cell? ⟨b, 2, none⟩ = some (.int .i64 (cn 2))
  b3 : w.cell? ⟨b, 3, none⟩ = some (.int .i64 (cn 3))
  b4 : w.cell? ⟨b, 4, none⟩ = some (.int .i64 (cn 4))
  b5 : w.cell? ⟨b, 5, none⟩ = some (.int .i64 (cn 5))
  b6 : w.cell? ⟨b, 6, none⟩ = some (.int .i64 (cn 6))
  b7 : w.cell? ⟨b, 7, none⟩ = some (.int .i64 (cn 7))

theorem Bx.box {w wc : World} {cn : Nat → Int} (h : Bx w cn wc) : Box wc w.heap.size cn :=
  ⟨h.cell 0 (by omega), h.cell 1 (by omega), h.cell 2 (by omega), h.cell 3 (by omega), h.cell 4 (by omega), h.cell 5 (by omega), h.cell 6 (by omega), h.cell 7 (by omega)⟩

set_option maxRecDepth 20000 in
set_option maxHeartbeats 4000000 in
theorem law4_main (so bo : Option Addr) (sn scap n cap : Nat) (sy bs cn : Nat → Int) (at_ : Int) (sh : Bool) (w : World) (hs : sn ≤ 65536) (hn : n ≤ 524288) (HBS : Hid (∀ i, i < n → 0 ≤ bs i ∧ bs i ≤ 255)) (HS : Hid (Arg w so sn scap .i64 sy)) (HB : Hid (Arg w bo n cap .u8 bs)) :
    Calls Try.prog 4 #[arr cn, .slice so sn scap, .slice bo n cap, .int .i64 at_, .bool sh] w fun e w' => e = .returned (.bool true) ∧ Below w.heap.size w w' := by
  have hmk := fun w => run_make_row' (P := Try.prog) 23 3 (.int .i64 0) 8 Try.underlying23 info3 rfl .i64 .i64 sn (by omega) (by omega) w
  have hmk2 := fun w => run_make_row' (P := Try.prog) 24 5 (.int .u8 0) 1 Try.underlying24 info5 rfl .i64 .i64 n (by omega) (by omega) w
  have hq := fun W => run_neq_slice_nil_any (P := Try.prog) W 23 3 so sn scap 0 0 Try.underlying23
  have hq2 := fun W => run_neq_slice_nil_any (P := Try.prog) W 24 5 bo n cap 0 0 Try.underlying24
  go_enter Try.func4, Try.ntmps4
  go_wp2_with fail
  refine (bytes8_any so bo sn scap n cap cn at_ sh true _ (by omega) (by omega) (by rw [decide_eq_true (by omega)])).mono ?_
  rintro r w1 ⟨rfl, hB1⟩
  have HX1 : Hid (Bx w cn w1) := by
    have h : Below (boxed w cn).heap.size (boxed w cn) w1 := hB1
    rw [boxed_size] at h
    exact h
  clear hB1
  go_upto_if 42 with fail
  go_cut [1] (fun v wc => Hid (Cop wc v sn .i64 sy) ∧ Hid (Bx w cn wc))
  case first =>
    rcases HS.out with ⟨rfl, rfl, rfl⟩ | ⟨a, rfl, hcell⟩
    · go_wp2_with fail
      go_meet
      case rel => exact ⟨⟨none, 0, rfl, fun i hi => by omega⟩, HX1⟩
    · have hcp := copy_eq (.int .i64 0) 23 3 Try.underlying23 size3 HS.out HX1.out.below
      go_wp2_with fail
      go_meet
      case rel => exact ⟨⟨_, _, rfl, copied_nums _ _ _ _ _ _⟩, copied_bx HX1.out _ _ _ _ _⟩
  case rest =>
    obtain ⟨HC1, HX2⟩ := hcut
    clear HX1
    obtain ⟨so', sc', rfl, hN1⟩ := HC1.out
    have HN1 : Hid (Nums wc wc.heap.size so' sn .i64 sy) := hN1
    clear HC1 hN1
    go_upto_if 51 with fail
    go_cut [2] (fun v wc => Hid (Cop wc v n .u8 bs) ∧ Hid (Nums wc wc.heap.size so' sn .i64 sy) ∧ Hid (Bx w cn wc))
    case first =>
      rcases HB.out with ⟨rfl, rfl, rfl⟩ | ⟨a, rfl, hcell⟩
      · go_wp2_with fail
        go_meet
        case rel => exact ⟨⟨none, 0, rfl, fun i hi => by omega⟩, HN1, HX2⟩
      · have hcp := copy_eq (.int .u8 0) 24 5 Try.underlying24 size5 HB.out HX2.out.below
        go_wp2_with fail
        go_meet
        case rel => exact ⟨⟨_, _, rfl, copied_nums _ _ _ _ _ _⟩, (HN1.out.below (copied_below _ _ _ _ _ _)).mono (copied_below _ _ _ _ _ _).size, copied_bx HX2.out _ _ _ _ _⟩
    case rest =>
      obtain ⟨HC2, HN2, HX3⟩ := hcut
      clear HX2 HN1
      obtain ⟨bo', bc', rfl, hN3⟩ := HC2.out
      have HN3 : Hid (Nums wc wc.heap.size bo' n .u8 bs) := hN3
      clear HC2 hN3
      go_wp2_with fail
      go_loopw [13, 14] (fun vt vm wr => ∃ (m j : Nat) (t : Int), vt = .int .i64 t ∧ vm = .int .i64 m ∧ 1 ≤ m ∧ m ≤ 8 ∧ 0 ≤ t ∧ t ≤ 65536 * 8 ∧ Hid (m = j + 1 ∧ t = idx cn j ∧ t ≤ 65536 * j ∧ ∀ i, 1 ≤ i → i < m → 0 ≤ cn i ∧ cn i ≤ sn) ∧ wr = wc) (fun _ i _ => 9 - (intOf i).toNat)
      case atStart => exact ⟨1, 0, 0, rfl, rfl, by omega, by omega, by omega, by omega, ⟨rfl, rfl, by omega, fun i h1 h2 => by omega⟩, rfl⟩
      case round =>
        obtain ⟨m, j, t, rfl, rfl, m0, m1, t0, t1, HE, rfl⟩ := hrel
        by_cases hm : m < 8
        · obtain ⟨c, hc⟩ : ∃ c, c = cn m := ⟨_, rfl⟩
          have cc := HX3.out.cell m hm
          rw [← hc] at cc
          have HK : Hid (c = cn m) := hc
          clear hc
          by_cases hgood : 0 ≤ c ∧ c ≤ sn
          · obtain ⟨g0, g1⟩ := hgood
            go_wp2_with fail
            go_roundw
            case rel =>
              obtain ⟨E1, E2, E3, E4⟩ := HE.out
              have hk := HK.out
              refine ⟨m + 1, j + 1, t + c, by go_num, by go_num, by omega, by omega, by omega, by omega, ⟨by omega, by rw [idx, ← E2, ← E1, ← hk], by omega, fun i h1 h2 => ?_⟩, (by first | rfl | trivial)⟩
              by_cases hi : i = m
              · rw [hi, ← hk]; exact ⟨g0, g1⟩
              · exact E4 i h1 (by omega)
            case measure => simp [intOf]; omega
          · go_wp2_with fail
            all_goals
              go_ret
              exact ⟨rfl, HX3.out.below⟩
        · have hm8 : m = 8 := by omega
          subst hm8
          obtain ⟨E1, E2, E3, E4⟩ := HE.out
          have hj7 : j = 7 := by omega
          subst hj7
          have HT : Hid (t = idx cn 7) := E2
          have HG : Hid (∀ i, 1 ≤ i → i < 8 → 0 ≤ cn i ∧ cn i ≤ sn) := E4
          clear E1 E2 E3 E4 HE
          by_cases ht : t ≤ sn
          · by_cases hat : 0 ≤ at_ ∧ at_ ≤ 8 * n
            · obtain ⟨hat0, hat1⟩ := hat
              have HAT : Hid (0 ≤ at_ ∧ at_ ≤ 8 * n) := ⟨hat0, hat1⟩
              rename World => wo
              go_wp2_with fail
              go_loopw [16] (fun vi wx => ∃ i : Nat, vi = .int .i64 i ∧ i ≤ sn ∧ Hid (Fill wo sn i wx)) (fun i _ => sn - (intOf i).toNat)
              case atStart => exact ⟨0, rfl, Nat.zero_le _, Fill.start wo sn⟩
              case round =>
                obtain ⟨i, rfl, hi, HF⟩ := hrel
                by_cases hlt : i < sn
                · have q1 := HF.out.cell i hlt
                  have q2 := HF.out.free i
                  go_wp2_with fail
                  go_roundw
                  case rel => exact ⟨i + 1, by go_num, by omega, HF.out.next hlt⟩
                  case measure => simp [intOf]; omega
                · have hi2 : sn = i := by omega
                  subst hi2
                  have HXr : Hid (Bx w cn wr) := HX3.out.next (HF.out.below.mono HX3.out.lt)
                  have HC : Hid (∀ j, 1 ≤ j → j < 8 → 0 ≤ cn j ∧ cn j ≤ 65536) := fun j h1 h2 => by have := HG.out j h1 h2; omega
                  have HI1 : Hid (Inp wr so' bo' sn n sy bs cn at_) := ⟨(HN2.out.below HF.out.below).mono HF.out.below.size, (HN3.out.below HF.out.below).mono HF.out.below.size, HBS.out, hn, hs, HC.out, by rw [← HT.out]; exact ht, HAT.out.1, HAT.out.2⟩
                  obtain ⟨b0, b1, b2, b3, b4, b5, b6, b7⟩ := HXr.out.box
                  rcases hit_or_miss cn bs n at_ with ⟨k, HK0⟩ | HM0
                  · have HH : Hid (Hit cn bs n at_ k) := HK0
                    have hk7 : k < 7 := HK0.1
                    obtain ⟨x, hx⟩ : ∃ x : Nat, x = (idx cn k + val bs n at_ (k + 1) - fst cn k).toNat := ⟨_, rfl⟩
                    have hxs := hit_x cn bs n sn at_ k hs HG.out HK0
                    rw [← hx, ← HT.out] at hxs
                    obtain ⟨hx1, hx2, hx3⟩ := hxs
                    have HX1 : Hid (idx cn k ≤ (x : Int)) := hx1
                    have HX2 : Hid ((x : Int) < idx cn k + cn (k + 1)) := hx2
                    obtain ⟨p, hp⟩ : ∃ p, p = pos n at_ (k + 1) := ⟨_, rfl⟩
                    obtain ⟨q, hq⟩ : ∃ q, q = shs n at_ sh (k + 1) := ⟨_, rfl⟩
                    obtain ⟨y, hy⟩ : ∃ y, y = sy x := ⟨_, rfl⟩
                    obtain ⟨B, rfl, hB, hsy⟩ := HI1.out.sym x (by omega)
                    rw [← hy] at hsy
                    have HD1 : Hid (Calls Try.prog 6 #[arr cn, .slice (some ⟨B, 0, none⟩) sn sc', .slice bo' n bc', .int .i64 at_, .bool sh] wr fun e w' => e = .returned (.tuple #[.int .i64 y, .int .i64 p, .bool q]) ∧ Below wr.heap.size wr w') := by
                      have h := zdecode_hit (some ⟨B, 0, none⟩) bo' sn sc' n bc' k sy bs cn at_ sh wr HI1 HH
                      rw [← hx, ← hy, ← hp, ← hq] at h
                      exact h
                    have HP : Hid (p = pos n at_ (k + 1)) := hp
                    have HQ : Hid (q = shs n at_ sh (k + 1)) := hq
                    have HXE : Hid (x = (idx cn k + val bs n at_ (k + 1) - fst cn k).toNat) := hx
                    clear hp hq hx HK0 hx1 hx2 hy
                    go_wp2_with fail
                    refine HD1.out.mono ?_
                    rintro r w3 ⟨rfl, hB3⟩
                    clear b0 b1 b2 b3 b4 b5 b6 b7
                    have HX3' : Hid (Bx w cn w3) := HXr.out.next (hB3.mono HXr.out.lt)
                    obtain ⟨b0, b1, b2, b3, b4, b5, b6, b7⟩ := HX3'.out.box
                    have HI2 : Hid (Inp w3 (some ⟨wo.heap.size, 0, none⟩) bo' sn n (fun i => (i : Int)) bs cn at_) := ⟨(HF.out.nums.below hB3).mono hB3.size, (HI1.out.byt.below hB3).mono hB3.size, HBS.out, hn, hs, HC.out, HI1.out.ht, HAT.out.1, HAT.out.2⟩
                    have HD2 : Hid (Calls Try.prog 6 #[arr cn, .slice (some ⟨wo.heap.size, 0, none⟩) sn sn, .slice bo' n bc', .int .i64 at_, .bool sh] w3 fun e w' => e = .returned (.tuple #[.int .i64 x, .int .i64 p, .bool q]) ∧ Below w3.heap.size w3 w') := by
                      have h := zdecode_hit (some ⟨wo.heap.size, 0, none⟩) bo' sn sn n bc' k (fun i => (i : Int)) bs cn at_ sh w3 HI2 HH
                      rw [← HXE.out, ← HP.out, ← HQ.out] at h
                      exact h
                    go_wp2_with fail
                    refine HD2.out.mono ?_
                    rintro r w4 ⟨rfl, hB4⟩
                    clear b0 b1 b2 b3 b4 b5 b6 b7
                    have HX4 : Hid (Bx w cn w4) := HX3'.out.next (hB4.mono HX3'.out.lt)
                    obtain ⟨b0, b1, b2, b3, b4, b5, b6, b7⟩ := HX4.out.box
                    have hsy4 : w4.cell? ⟨B, x, none⟩ = some (.int .i64 y) := ((hB3.trans (hB4.mono hB3.size)).cell (p := ⟨B, x, none⟩) hB).trans hsy
                    go_wp2_with fail
                    have g1 := HC.out 1 (by omega) (by omega)
                    have g2 := HC.out 2 (by omega) (by omega)
                    have g3 := HC.out 3 (by omega) (by omega)
                    have g4 := HC.out 4 (by omega) (by omega)
                    have g5 := HC.out 5 (by omega) (by omega)
                    have g6 := HC.out 6 (by omega) (by omega)
                    have g7 := HC.out 7 (by omega) (by omega)
                    have HBB : Hid (Below w.heap.size w w4) := HX4.out.below
                    by_cases h7 : at_ + 7 ≤ 8 * n
                    · obtain ⟨u, hu⟩ : ∃ u : Nat, u = k + 1 := ⟨_, rfl⟩
                      have hpu := pos_in n at_ (k + 1) (by omega) h7
                      rw [← HP.out, ← hu] at hpu
                      obtain ⟨hpu, hp0, hp1⟩ := hpu
                      have hu1 : 1 ≤ u := by omega
                      have hu7 : u ≤ 7 := by omega
                      have HU : Hid (u = k + 1) := hu
                      clear hu
                      refine wp_loop_rounds 8 ?_
                      iterate 8 (rw [rounds_succ]; go_wp2_with fail)
                      all_goals
                        go_loopw [26, 27] (fun vs vm wx => ∃ (m j : Nat) (t' : Int), vs = .int .i64 t' ∧ vm = .int .i64 m ∧ 1 ≤ m ∧ m ≤ u ∧ 0 ≤ t' ∧ t' ≤ 65536 ∧ Hid (m = j + 1 ∧ t' = idx cn j) ∧ wx = w4) (fun _ i _ => 9 - (intOf i).toNat)
                        case atStart => exact ⟨1, 0, 0, rfl, rfl, by omega, by omega, by omega, by omega, ⟨rfl, rfl⟩, rfl⟩
                        case round =>
                          obtain ⟨m, j, t', rfl, rfl, m0', m1', s0, s1, HE', rfl⟩ := hrel
                          have hm8 : m < 8 := by omega
                          obtain ⟨c, hc⟩ : ∃ c, c = cn m := ⟨_, rfl⟩
                          have cc := HX4.out.cell m hm8
                          have bc := HC.out m m0' hm8
                          rw [← hc] at cc bc
                          have hsum := idx_succ_le cn sn hs HG.out j (by have := HE'.out.1; omega)
                          rw [← HE'.out.1, ← hc, ← HE'.out.2, ← HT.out] at hsum
                          have HK' : Hid (c = cn m) := hc
                          clear hc b0 b1 b2 b3 b4 b5 b6 b7
                          by_cases hmu : m < u
                          · go_wp2_with fail
                            go_roundw
                            case rel =>
                              obtain ⟨E1, E2⟩ := HE'.out
                              refine ⟨m + 1, j + 1, t' + c, by go_num, by go_num, by omega, by omega, by omega, by omega, ⟨by omega, by rw [idx, ← E2, ← E1, ← HK'.out]⟩, (by first | rfl | trivial)⟩
                            case measure => simp [intOf]; omega
                          · have hmu' : m = u := by omega
                            subst hmu'
                            have hjk : j = k := by have h1 := HE'.out.1; have h2 := HU.out; omega
                            have y1 : t' ≤ (x : Int) := by
                              rw [HE'.out.2, hjk]
                              exact HX1.out
                            have y2 : (x : Int) < t' + c := by
                              rw [HE'.out.2, HK'.out, HU.out, hjk]
                              exact HX2.out
                            go_wp2_with fail
                            go_ret
                            exact ⟨rfl, HBB.out⟩
                    · refine wp_loop_rounds 8 ?_
                      iterate 8 (rw [rounds_succ]; go_wp2_with fail)
                      all_goals
                        go_ret
                        exact ⟨rfl, HBB.out⟩
                  · have HH : Hid (Miss cn bs n at_) := HM0
                    have hkr := miss_kraft cn bs n at_ HM0
                    obtain ⟨p, hp⟩ : ∃ p, p = pos n at_ 7 := ⟨_, rfl⟩
                    obtain ⟨q, hq⟩ : ∃ q, q = shs n at_ sh 7 := ⟨_, rfl⟩
                    have HD1 : Hid (Calls Try.prog 6 #[arr cn, .slice so' sn sc', .slice bo' n bc', .int .i64 at_, .bool sh] wr fun e w' => e = .returned (.tuple #[.int .i64 (-1), .int .i64 p, .bool q]) ∧ Below wr.heap.size wr w') := by
                      have h := zdecode_miss so' bo' sn sc' n bc' sy bs cn at_ sh wr HI1 HH
                      rw [← hp, ← hq] at h
                      exact h
                    have HP : Hid (p = pos n at_ 7) := hp
                    have HQ : Hid (q = shs n at_ sh 7) := hq
                    clear hp hq HM0
                    go_wp2_with fail
                    refine HD1.out.mono ?_
                    rintro r w3 ⟨rfl, hB3⟩
                    clear b0 b1 b2 b3 b4 b5 b6 b7
                    have HX3' : Hid (Bx w cn w3) := HXr.out.next (hB3.mono HXr.out.lt)
                    obtain ⟨b0, b1, b2, b3, b4, b5, b6, b7⟩ := HX3'.out.box
                    have HI2 : Hid (Inp w3 (some ⟨wo.heap.size, 0, none⟩) bo' sn n (fun i => (i : Int)) bs cn at_) := ⟨(HF.out.nums.below hB3).mono hB3.size, (HI1.out.byt.below hB3).mono hB3.size, HBS.out, hn, hs, HC.out, HI1.out.ht, HAT.out.1, HAT.out.2⟩
                    have HD2 : Hid (Calls Try.prog 6 #[arr cn, .slice (some ⟨wo.heap.size, 0, none⟩) sn sn, .slice bo' n bc', .int .i64 at_, .bool sh] w3 fun e w' => e = .returned (.tuple #[.int .i64 (-1), .int .i64 p, .bool q]) ∧ Below w3.heap.size w3 w') := by
                      have h := zdecode_miss (some ⟨wo.heap.size, 0, none⟩) bo' sn sn n bc' (fun i => (i : Int)) bs cn at_ sh w3 HI2 HH
                      rw [← HP.out, ← HQ.out] at h
                      exact h
                    go_wp2_with fail
                    refine HD2.out.mono ?_
                    rintro r w4 ⟨rfl, hB4⟩
                    clear b0 b1 b2 b3 b4 b5 b6 b7
                    have HX4 : Hid (Bx w cn w4) := HX3'.out.next (hB4.mono HX3'.out.lt)
                    obtain ⟨b0, b1, b2, b3, b4, b5, b6, b7⟩ := HX4.out.box
                    have g1 := HC.out 1 (by omega) (by omega)
                    have g2 := HC.out 2 (by omega) (by omega)
                    have g3 := HC.out 3 (by omega) (by omega)
                    have g4 := HC.out 4 (by omega) (by omega)
                    have g5 := HC.out 5 (by omega) (by omega)
                    have g6 := HC.out 6 (by omega) (by omega)
                    have g7 := HC.out 7 (by omega) (by omega)
                    have HBB : Hid (Below w.heap.size w w4) := HX4.out.below
                    by_cases h7 : at_ + 7 ≤ 8 * n
                    · have hpu := pos_in n at_ 7 (by omega) h7
                      rw [← HP.out] at hpu
                      obtain ⟨hpu, hp0, hp1⟩ := hpu
                      have hpu' : p = at_ + 7 := by omega
                      subst hpu'
                      clear hpu
                      go_wp2_with fail
                      refine wp_loop_rounds 8 ?_
                      iterate 8 (rw [rounds_succ]; go_wp2_with fail)
                      all_goals
                        go_ret
                        exact ⟨by simp <;> omega, HBB.out⟩
                    · go_wp2_with fail
                      refine wp_loop_rounds 8 ?_
                      iterate 8 (rw [rounds_succ]; go_wp2_with fail)
                      all_goals
                        go_ret
                        exact ⟨rfl, HBB.out⟩
            · go_wp2_with fail
              all_goals
                go_ret
                exact ⟨rfl, HX3.out.below⟩
          · go_wp2_with fail
            go_ret
            exact ⟨rfl, HX3.out.below⟩
end Go.Proofs.Qxb6628717a
