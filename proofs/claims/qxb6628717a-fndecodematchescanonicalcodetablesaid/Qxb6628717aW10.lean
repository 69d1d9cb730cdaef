import Derived.Test.Qxb6628717aW9
namespace Go.Proofs.Qxb6628717a
open Go.RowKit Go.Deep

/-- The world in which the model's loops run. -/
structure Md (w : World) (nb : Nat) (so bo : Option Addr) (sn n : Nat) (sy bs cn : Nat → Int) (W : World) : Prop where
  bx : Bx w cn W
  fc : ∀ m, 1 ≤ m → m < 8 → W.cell? ⟨nb, m, none⟩ = some (.int .i64 (fst cn (m - 1)))
  sym : Nums W W.heap.size so sn .i64 sy
  byt : Nums W W.heap.size bo n .u8 bs

theorem md_start {w w1 : World} {so bo : Option Addr} {sn n : Nat} {sy bs cn : Nat → Int} {at_ : Int} (h : Inp w so bo sn n sy bs cn at_) (hB : Below (boxed w cn).heap.size (boxed w cn) w1) :
    Md w w1.heap.size so bo sn n sy bs cn (w1.alloc (.cells #[.int .i64 0, .int .i64 (fst cn 0), .int .i64 (fst cn 1), .int .i64 (fst cn 2), .int .i64 (fst cn 3), .int .i64 (fst cn 4), .int .i64 (fst cn 5), .int .i64 (fst cn 6)] 22)) := by
  rw [boxed_size] at hB
  have hx : Bx w cn w1 := hB
  have hx2 : Bx w cn (w1.alloc (.cells #[.int .i64 0, .int .i64 (fst cn 0), .int .i64 (fst cn 1), .int .i64 (fst cn 2), .int .i64 (fst cn 3), .int .i64 (fst cn 4), .int .i64 (fst cn 5), .int .i64 (fst cn 6)] 22)) := Below.alloc hx hx.lt _
  refine ⟨hx2, fun m h1 h2 => ?_, (h.sym.below hx2.below).mono hx2.below.size, (h.byt.below hx2.below).mono hx2.below.size⟩
  rcases (by omega : m = 1 ∨ m = 2 ∨ m = 3 ∨ m = 4 ∨ m = 5 ∨ m = 6 ∨ m = 7) with rfl | rfl | rfl | rfl | rfl | rfl | rfl <;> simp [go_sem]

set_option maxHeartbeats 4000000 in
theorem model_hit (so bo : Option Addr) (sn scap n cap k : Nat) (sy bs cn : Nat → Int) (at_ : Int) (w : World) (HI : Hid (Inp w so bo sn n sy bs cn at_)) (HH : Hid (Hit cn bs n at_ k)) :
    Calls Try.prog 7 #[arr cn, .slice so sn scap, .slice bo n cap, .int .i64 at_] w fun e w' => e = .returned (.tuple #[.int .i64 (sy (idx cn k + val bs n at_ (k + 1) - fst cn k).toNat), .int .i64 ((k + 1 : Nat) : Int)]) ∧ Below w.heap.size w w' := by
  have hk7 : k < 7 := HH.out.1
  have HP : Hid (∀ j, j < k → fst cn j + cn (j + 1) ≤ val bs n at_ (j + 1)) := HH.out.2.1
  have HT : Hid (val bs n at_ (k + 1) < fst cn k + cn (k + 1)) := HH.out.2.2
  have hn := HI.out.hn
  have a0 := HI.out.a0
  have a1 := HI.out.a1
  go_enter Try.func7, Try.ntmps7
  go_wp2_with fail
  refine (firsts_any cn _ HI.out.hc).mono ?_
  rintro r w1 ⟨rfl, hB1⟩
  have HM1 := md_start HI.out hB1
  have HM2 : Hid (Md w w1.heap.size so bo sn n sy bs cn (w1.alloc (.cells #[.int .i64 0, .int .i64 (fst cn 0), .int .i64 (fst cn 1), .int .i64 (fst cn 2), .int .i64 (fst cn 3), .int .i64 (fst cn 4), .int .i64 (fst cn 5), .int .i64 (fst cn 6)] 22))) := HM1
  clear HM1 hB1
  go_wp2_with fail
  go_loopw [11] (fun vm wx => ∃ m j : Nat, vm = .int .i64 m ∧ 1 ≤ m ∧ m ≤ k + 1 ∧ Hid (m = j + 1) ∧ Hid (Md w w1.heap.size so bo sn n sy bs cn wx)) (fun i _ => 9 - (intOf i).toNat)
  case atStart => exact ⟨1, 0, rfl, by omega, by omega, rfl, HM2⟩
  case round =>
    clear HM2
    obtain ⟨m, j, rfl, m0, m1, HE, HM⟩ := hrel
    have hm8 : m < 8 := by omega
    by_cases hjk : j = k
    · rename World => wo
      go_wp2_with fail
      rw [decide_eq_true (show ((m : Nat) : Int) < 8 by omega)]
      go_loopw [12, 13] (fun vv vi wx => ∃ (i : Nat) (v : Int), vv = .int .i64 v ∧ vi = .int .i64 i ∧ i ≤ m ∧ 0 ≤ v ∧ v < 128 ∧ Hid (v = val bs n at_ i) ∧ wx = wo) (fun _ i _ => m - (intOf i).toNat)
      case atStart => exact ⟨0, 0, rfl, rfl, Nat.zero_le _, by omega, by omega, rfl, rfl⟩
      case round =>
        obtain ⟨i, v, rfl, rfl, i1, v0, v1, HV, rfl⟩ := hrel
        by_cases him : i < m
        · obtain ⟨z, hz⟩ : ∃ z, z = sbit bs n (at_ + i) := ⟨_, rfl⟩
          obtain ⟨u, hu⟩ : ∃ u, u = val bs n at_ (i + 1) := ⟨_, rfl⟩
          have bz := sbit_bd bs n (at_ + i)
          have bu := val_bd bs n at_ (i + 1) (by omega)
          rw [← hz] at bz
          rw [← hu] at bu
          have hor : bits .or .i64 (v * 2) z = u := by
            rw [hz, hu, val, ← HV.out, Int.mul_comm v 2]
            rw [← hz]
            exact or_bit v0 v1 bz.1 bz.2
          have HU : Hid (u = val bs n at_ (i + 1)) := hu
          have HSB : Hid (Calls Try.prog 11 #[.slice bo n cap, .int .i64 (at_ + i)] wr fun e w' => e = .returned (.int .i64 z) ∧ w' = wr) := by
            have h := sbit_any bo n cap _ bs (at_ + i) wr HM.out.byt HI.out.hb hn (by omega)
            rw [← hz] at h
            exact h
          clear hz hu
          go_wp2_with fail
          refine HSB.out.mono ?_
          rintro r w5 ⟨rfl, rfl⟩
          go_wp2_with fail
          go_roundw
          case rel => (first | exact ⟨i + 1, u, by go_num, by go_num, by omega, by omega, by omega, HU, (by first | rfl | trivial)⟩ | ((repeat apply Exists.intro); refine ⟨?_, rfl⟩; exact ⟨i + 1, u, by go_num, by go_num, by omega, by omega, by omega, HU, (by first | rfl | trivial)⟩))
          case measure => simp [intOf]; omega
        · have him' : i = m := by omega
          subst him'
          rename World => wo
          go_wp2_with fail
          go_loopw [14, 15] (fun vp vL wx => ∃ (L l : Nat) (p : Int), vp = .int .i64 p ∧ vL = .int .i64 L ∧ 1 ≤ L ∧ L ≤ i ∧ 0 ≤ p ∧ p ≤ 65536 ∧ Hid (L = l + 1 ∧ p = idx cn l) ∧ wx = wo) (fun _ i _ => 9 - (intOf i).toNat)
          case atStart => exact ⟨1, 0, 0, rfl, rfl, by omega, by omega, by omega, by omega, ⟨rfl, rfl⟩, rfl⟩
          case round =>
            obtain ⟨L, l, p, rfl, rfl, L0, L1, p0, p1, HL, rfl⟩ := hrel
            have hL8 : L < 8 := by omega
            obtain ⟨c, hc⟩ : ∃ c, c = cn L := ⟨_, rfl⟩
            obtain ⟨f, hf⟩ : ∃ f, f = fst cn l := ⟨_, rfl⟩
            have bc := HI.out.hc L L0 hL8
            have bf := fst_bd cn HI.out.hc l (by have := HL.out.1; omega)
            have cc := HM.out.bx.cell L hL8
            have cf := HM.out.fc L L0 hL8
            have hLl : L - 1 = l := by have := HL.out.1; omega
            rw [hLl, ← hf] at cf
            rw [← hc] at cc bc
            rw [← hf] at bf
            have bi1 := idx_le cn HI.out.hc (l + 1) (by have := HL.out.1; omega)
            have bt := HI.out.ht
            have bsn := HI.out.hs
            rw [idx, ← HL.out.1, ← hc, ← HL.out.2] at bi1
            have hpc : p + c ≤ 65536 := by omega
            have hpc2 : p + c ≤ sn := by omega
            have HCc : Hid (c = cn L) := hc
            have HFf : Hid (f = fst cn l) := hf
            clear hc hf bt bi1 hLl
            by_cases hLm : L = i
            · subst hLm
              have hlk : l = k := by have h3 := HL.out.1; have h4 := HE.out; omega
              have hhit : v < f + c := by
                have h1 := HT.out
                have h2 := HV.out
                rw [HE.out, hjk] at h2
                rw [HFf.out, HCc.out, hlk, HE.out, hjk, h2]
                exact h1
              have hle : f ≤ v := by
                have h1 := fst_le cn bs n at_ k HP.out
                have h2 := HV.out
                rw [HE.out, hjk] at h2
                rw [HFf.out, hlk, h2]
                exact h1
              rename World => wo
              go_wp2_with fail
              try rw [decide_eq_true (show ((L : Nat) : Int) < 8 by omega)]
              go_loopw [14, 16, 17] (fun vp vc vj wx => ∃ a : Nat, vp = .int .i64 (p + a) ∧ vc = .int .i64 (f + a) ∧ vj = .int .i64 a ∧ (a : Int) ≤ v - f ∧ wx = wo) (fun _ _ i _ => 65537 - (intOf i).toNat)
              case atStart => exact ⟨0, by simp, by simp, rfl, by omega, rfl⟩
              case round =>
                obtain ⟨a, rfl, rfl, rfl, a1, rfl⟩ := hrel
                by_cases haq : (a : Int) < v - f
                · go_wp2_with fail
                  go_roundw
                  case rel => (first | exact ⟨a + 1, by go_num, by go_num, by go_num, by omega, (by first | rfl | trivial)⟩ | ((repeat apply Exists.intro); refine ⟨?_, rfl⟩; exact ⟨a + 1, by go_num, by go_num, by go_num, by omega, (by first | rfl | trivial)⟩))
                  case measure => simp [intOf]; omega
                · have haq' : f + (a : Int) = v := by omega
                  have hin : (p + (a : Int)).toNat < sn := by omega
                  obtain ⟨B, rfl, _, hsy⟩ := HM.out.sym _ hin
                  obtain ⟨y, hy⟩ : ∃ y, y = sy (p + (a : Int)).toNat := ⟨_, rfl⟩
                  rw [← hy] at hsy
                  have HY : Hid (y = sy (idx cn k + val bs n at_ (k + 1) - fst cn k).toNat) := by
                    show _ = _
                    rw [hy, HL.out.2, hlk]
                    congr 2
                    have h1 := HFf.out
                    rw [hlk] at h1
                    have h2 := HV.out
                    rw [HE.out, hjk] at h2
                    rw [← h1, ← h2]
                    omega
                  clear hy
                  go_wp2_with fail
                  go_ret2
                  refine ⟨?_, HM.out.bx.below⟩
                  rw [← HY.out]
                  have h3 := HE.out
                  rw [hjk] at h3
                  rw [h3]
                  rfl
            · rename World => wo
              go_wp2_with fail
              try rw [decide_eq_true (show ((L : Nat) : Int) < 8 by omega)]
              go_loopw [14, 16, 17] (fun vp vc vj wx => ∃ a : Nat, vp = .int .i64 (p + a) ∧ vc = .int .i64 (f + a) ∧ vj = .int .i64 a ∧ (a : Int) ≤ c ∧ wx = wo) (fun _ _ i _ => 65537 - (intOf i).toNat)
              case atStart => exact ⟨0, by simp, by simp, rfl, by omega, rfl⟩
              case round =>
                obtain ⟨a, rfl, rfl, rfl, a1, rfl⟩ := hrel
                by_cases hac : (a : Int) < c
                · go_wp2_with fail
                  go_roundw
                  case rel => (first | exact ⟨a + 1, by go_num, by go_num, by go_num, by omega, (by first | rfl | trivial)⟩ | ((repeat apply Exists.intro); refine ⟨?_, rfl⟩; exact ⟨a + 1, by go_num, by go_num, by go_num, by omega, (by first | rfl | trivial)⟩))
                  case measure => simp [intOf]; omega
                · have hac2 : c ≤ (a : Int) := by omega
                  go_wp2_with fail
                  go_roundw
                  case rel =>
                    have hac' : (a : Int) = c := by omega
                    obtain ⟨E1, E2⟩ := HL.out
                    (first | exact ⟨L + 1, l + 1, p + a, rfl, by go_num, by omega, by omega, by omega, by omega, ⟨by omega, by rw [idx, ← E2, ← E1, ← HCc.out, hac']⟩, (by first | rfl | trivial)⟩ | ((repeat apply Exists.intro); refine ⟨?_, rfl⟩; exact ⟨L + 1, l + 1, p + a, rfl, by go_num, by omega, by omega, by omega, by omega, ⟨by omega, by rw [idx, ← E2, ← E1, ← HCc.out, hac']⟩, (by first | rfl | trivial)⟩))
                  case measure => simp [intOf]; omega
    · have HN : Hid (fst cn j + cn (j + 1) ≤ val bs n at_ (j + 1)) := HP.out j (by have := HE.out; omega)
      rename World => wo
      go_wp2_with fail
      rw [decide_eq_true (show ((m : Nat) : Int) < 8 by omega)]
      go_loopw [12, 13] (fun vv vi wx => ∃ (i : Nat) (v : Int), vv = .int .i64 v ∧ vi = .int .i64 i ∧ i ≤ m ∧ 0 ≤ v ∧ v < 128 ∧ Hid (v = val bs n at_ i) ∧ wx = wo) (fun _ i _ => m - (intOf i).toNat)
      case atStart => exact ⟨0, 0, rfl, rfl, Nat.zero_le _, by omega, by omega, rfl, rfl⟩
      case round =>
        obtain ⟨i, v, rfl, rfl, i1, v0, v1, HV, rfl⟩ := hrel
        by_cases him : i < m
        · obtain ⟨z, hz⟩ : ∃ z, z = sbit bs n (at_ + i) := ⟨_, rfl⟩
          obtain ⟨u, hu⟩ : ∃ u, u = val bs n at_ (i + 1) := ⟨_, rfl⟩
          have bz := sbit_bd bs n (at_ + i)
          have bu := val_bd bs n at_ (i + 1) (by omega)
          rw [← hz] at bz
          rw [← hu] at bu
          have hor : bits .or .i64 (v * 2) z = u := by
            rw [hz, hu, val, ← HV.out, Int.mul_comm v 2]
            rw [← hz]
            exact or_bit v0 v1 bz.1 bz.2
          have HU : Hid (u = val bs n at_ (i + 1)) := hu
          have HSB : Hid (Calls Try.prog 11 #[.slice bo n cap, .int .i64 (at_ + i)] wr fun e w' => e = .returned (.int .i64 z) ∧ w' = wr) := by
            have h := sbit_any bo n cap _ bs (at_ + i) wr HM.out.byt HI.out.hb hn (by omega)
            rw [← hz] at h
            exact h
          clear hz hu
          go_wp2_with fail
          refine HSB.out.mono ?_
          rintro r w5 ⟨rfl, rfl⟩
          go_wp2_with fail
          go_roundw
          case rel => (first | exact ⟨i + 1, u, by go_num, by go_num, by omega, by omega, by omega, HU, (by first | rfl | trivial)⟩ | ((repeat apply Exists.intro); refine ⟨?_, rfl⟩; exact ⟨i + 1, u, by go_num, by go_num, by omega, by omega, by omega, HU, (by first | rfl | trivial)⟩))
          case measure => simp [intOf]; omega
        · have him' : i = m := by omega
          subst him'
          rename World => wo
          go_wp2_with fail
          go_loopw [14, 15] (fun vp vL wx => ∃ (L l : Nat) (p : Int), vp = .int .i64 p ∧ vL = .int .i64 L ∧ 1 ≤ L ∧ L ≤ 8 ∧ 0 ≤ p ∧ p ≤ 65536 ∧ Hid (L = l + 1 ∧ p = idx cn l) ∧ wx = wo) (fun _ i _ => 9 - (intOf i).toNat)
          case atStart => exact ⟨1, 0, 0, rfl, rfl, by omega, by omega, by omega, by omega, ⟨rfl, rfl⟩, rfl⟩
          case round =>
            obtain ⟨L, l, p, rfl, rfl, L0, L1, p0, p1, HL, rfl⟩ := hrel
            by_cases hL8 : L < 8
            · obtain ⟨c, hc⟩ : ∃ c, c = cn L := ⟨_, rfl⟩
              obtain ⟨f, hf⟩ : ∃ f, f = fst cn l := ⟨_, rfl⟩
              have bc := HI.out.hc L L0 hL8
              have bf := fst_bd cn HI.out.hc l (by have := HL.out.1; omega)
              have cc := HM.out.bx.cell L hL8
              have cf := HM.out.fc L L0 hL8
              have hLl : L - 1 = l := by have := HL.out.1; omega
              rw [hLl, ← hf] at cf
              rw [← hc] at cc bc
              rw [← hf] at bf
              have bi1 := idx_le cn HI.out.hc (l + 1) (by have := HL.out.1; omega)
              have bt := HI.out.ht
              have bsn := HI.out.hs
              rw [idx, ← HL.out.1, ← hc, ← HL.out.2] at bi1
              have hpc : p + c ≤ 65536 := by omega
              have hpc2 : p + c ≤ sn := by omega
              have HCc : Hid (c = cn L) := hc
              have HFf : Hid (f = fst cn l) := hf
              clear hc hf bt bi1 hLl
              by_cases hLm : L = i
              · subst hLm
                have hno : f + c ≤ v := by
                  have h1 := HN.out
                  rw [HFf.out, HCc.out, HV.out, HE.out]
                  have h2 : l = j := by have h3 := HL.out.1; have h4 := HE.out; omega
                  rw [h2]
                  exact h1
                rename World => wo
                go_wp2_with fail
                try rw [decide_eq_true (show ((L : Nat) : Int) < 8 by omega)]
                go_loopw [14, 16, 17] (fun vp vc vj wx => ∃ a : Nat, vp = .int .i64 (p + a) ∧ vc = .int .i64 (f + a) ∧ vj = .int .i64 a ∧ (a : Int) ≤ c ∧ wx = wo) (fun _ _ i _ => 65537 - (intOf i).toNat)
                case atStart => exact ⟨0, by simp, by simp, rfl, by omega, rfl⟩
                case round =>
                  obtain ⟨a, rfl, rfl, rfl, a1, rfl⟩ := hrel
                  by_cases hac : (a : Int) < c
                  · go_wp2_with fail
                    go_roundw
                    case rel => (first | exact ⟨a + 1, by go_num, by go_num, by go_num, by omega, (by first | rfl | trivial)⟩ | ((repeat apply Exists.intro); refine ⟨?_, rfl⟩; exact ⟨a + 1, by go_num, by go_num, by go_num, by omega, (by first | rfl | trivial)⟩))
                    case measure => simp [intOf]; omega
                  · have hac2 : c ≤ (a : Int) := by omega
                    go_wp2_with fail
                    go_roundw
                    case rel =>
                      have hac' : (a : Int) = c := by omega
                      obtain ⟨E1, E2⟩ := HL.out
                      (first | exact ⟨L + 1, l + 1, p + a, rfl, by go_num, by omega, by omega, by omega, by omega, ⟨by omega, by rw [idx, ← E2, ← E1, ← HCc.out, hac']⟩, (by first | rfl | trivial)⟩ | ((repeat apply Exists.intro); refine ⟨?_, rfl⟩; exact ⟨L + 1, l + 1, p + a, rfl, by go_num, by omega, by omega, by omega, by omega, ⟨by omega, by rw [idx, ← E2, ← E1, ← HCc.out, hac']⟩, (by first | rfl | trivial)⟩))
                    case measure => simp [intOf]; omega
              · rename World => wo
                go_wp2_with fail
                try rw [decide_eq_true (show ((L : Nat) : Int) < 8 by omega)]
                go_loopw [14, 16, 17] (fun vp vc vj wx => ∃ a : Nat, vp = .int .i64 (p + a) ∧ vc = .int .i64 (f + a) ∧ vj = .int .i64 a ∧ (a : Int) ≤ c ∧ wx = wo) (fun _ _ i _ => 65537 - (intOf i).toNat)
                case atStart => exact ⟨0, by simp, by simp, rfl, by omega, rfl⟩
                case round =>
                  obtain ⟨a, rfl, rfl, rfl, a1, rfl⟩ := hrel
                  by_cases hac : (a : Int) < c
                  · go_wp2_with fail
                    go_roundw
                    case rel => (first | exact ⟨a + 1, by go_num, by go_num, by go_num, by omega, (by first | rfl | trivial)⟩ | ((repeat apply Exists.intro); refine ⟨?_, rfl⟩; exact ⟨a + 1, by go_num, by go_num, by go_num, by omega, (by first | rfl | trivial)⟩))
                    case measure => simp [intOf]; omega
                  · have hac2 : c ≤ (a : Int) := by omega
                    go_wp2_with fail
                    go_roundw
                    case rel =>
                      have hac' : (a : Int) = c := by omega
                      obtain ⟨E1, E2⟩ := HL.out
                      (first | exact ⟨L + 1, l + 1, p + a, rfl, by go_num, by omega, by omega, by omega, by omega, ⟨by omega, by rw [idx, ← E2, ← E1, ← HCc.out, hac']⟩, (by first | rfl | trivial)⟩ | ((repeat apply Exists.intro); refine ⟨?_, rfl⟩; exact ⟨L + 1, l + 1, p + a, rfl, by go_num, by omega, by omega, by omega, by omega, ⟨by omega, by rw [idx, ← E2, ← E1, ← HCc.out, hac']⟩, (by first | rfl | trivial)⟩))
                    case measure => simp [intOf]; omega
            · go_wp2_with fail
              go_roundw
              case rel => (first | exact ⟨i + 1, j + 1, by go_num, by omega, (by have := HE.out; omega), (by have := HE.out; show _ = _; omega), HM⟩ | ((repeat apply Exists.intro); refine ⟨?_, rfl⟩; exact ⟨i + 1, j + 1, by go_num, by omega, (by have := HE.out; omega), (by have := HE.out; show _ = _; omega), HM⟩))
              case measure => simp [intOf]; omega
end Go.Proofs.Qxb6628717a
