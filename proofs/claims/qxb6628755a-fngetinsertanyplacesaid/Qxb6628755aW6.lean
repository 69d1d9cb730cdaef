import Derived.Test.Qxb6628755aW5
namespace Go.Proofs.Qxb6628755a
open Go.RowKit

set_option maxHeartbeats 4000000 in
theorem bytes9_any (so : Option Addr) (ca n : Nat) (i tag ft : Int) (fv : ByteArray) (xs : List F) (w : World) (hn : n ≤ 9223372036854775807) (HN : Hid (n = xs.length)) (HA : Hid (ArgF w w.heap.size so xs)) :
    Calls Try.prog 9 #[.slice so n ca, .int .i64 i, .agg #[.int .i64 ft, .string fv], .int .i64 tag] w (Says w) := by
  have hB : Below w.heap.size w (w.alloc (.cells #[.int .i64 ft, .string fv] 32)) := (Below.refl _ _).alloc (Nat.le_refl _) _
  have HBX : Hid (Below w.heap.size w (w.alloc (.cells #[.int .i64 ft, .string fv] 32))) := hB
  clear hB
  by_cases h1 : n ≤ 1048576
  · go_enter Try.func9, Try.ntmps9
    go_wp2
    go_loop [9, 10] (fun t i => ∃ (k : Nat) (z : Int), k ≤ n ∧ i = .int .i64 k ∧ t = .int .i64 z ∧ 0 ≤ z ∧ z ≤ 1048576) (fun _ i => n - (intOf i).toNat)
    case atStart => exact ⟨0, _, Nat.zero_le _, rfl, rfl, by omega, by omega⟩
    case round =>
      obtain ⟨k, z, hk, rfl, rfl, z0, z1⟩ := hrel
      by_cases hlt : k < n
      · obtain ⟨b, o, f, hf, rfl, hb, q0, q1⟩ := HA.out.at (k := k) (by rw [← HN.out]; exact hlt)
        have c1 := (HBX.out.cell (p := ⟨b, o + k * 2 + 1, none⟩) hb).trans q1
        clear q0 q1 hf
        obtain ⟨s, hs⟩ : ∃ s, s = f.v := ⟨_, rfl⟩
        rw [← hs] at c1
        clear hs
        by_cases hs1 : s.size ≤ 1048576
        · by_cases hs2 : z + s.size ≤ 1048576
          · go_wp2
            go_round
            case rel => exact ⟨k + 1, z + s.size, by omega, by go_num, by go_num, by omega, by omega⟩
            case measure => simp [intOf]; omega
          · go_wp2
            go_ret
            exact ⟨_, rfl, HBX.out⟩
        · go_wp2
          go_ret
          exact ⟨_, rfl, HBX.out⟩
      · go_wp2
        all_goals
          go_ret
          exact ⟨_, rfl, HBX.out⟩
  · go_enter Try.func9, Try.ntmps9
    go_wp2
    go_ret
    exact ⟨_, rfl, HBX.out⟩

set_option maxHeartbeats 1000000 in
theorem toMsg_nil (cap : Nat) (w : World) : Calls Try.prog 7 #[.slice none 0 cap] w fun e w' => e = .returned (.slice none 0 0) ∧ w' = w := by
  have hq := fun W => Lib.run_eql_slice_nil (P := Try.prog) W 22 32 none 0 cap 0 0 Try.underlying22
  go_enter Try.func7, Try.ntmps7
  go_wp2
  go_ret
  exact ⟨rfl, rfl⟩

set_option maxHeartbeats 1000000 in
theorem toMsg_some (a : Addr) (cap n : Nat) (xs : List F) (w : World) (hn : n ≤ 65536) (HN : Hid (n = xs.length)) (HA : Hid (ArgF w w.heap.size (some a) xs)) :
    Calls Try.prog 7 #[.slice (some a) n cap] w fun e w' => e = .returned (.slice (some ⟨w.heap.size, 0, none⟩) n n) ∧ Msg w w.heap.size n xs n w' := by
  obtain ⟨i0, hi, hz0, hz1, hz2⟩ := info_parts info29
  have hq := fun W => Lib.run_eql_slice_nil (P := Try.prog) W 22 32 (some a) n cap 0 0 Try.underlying22
  go_enter Try.func7, Try.ntmps7
  go_wp2_with (at_make; refine wpList_make_full _ rfl _ _ 26 rfl w.heap.size 29 i0 _ 2 Try.underlying26 hi hz0 hz1 .i64 .i64 _ _ n rfl rfl rfl rfl (by rw [hz2]; omega) (by unfold maxLen; omega) (Nat.le_refl _) ?_; intro w1 hown hgrow)
  have HM : Hid (Msg w w.heap.size n xs 0 w1) := msg_start hown hgrow
  clear hown hgrow
  go_loopw [4] (fun vi wr => ∃ i : Nat, vi = .int .i64 i ∧ i ≤ n ∧ Hid (Msg w w.heap.size n xs i wr)) (fun i _ => n - (intOf i).toNat)
  case atStart => exact ⟨0, rfl, Nat.zero_le _, HM⟩
  case round =>
    clear HM
    obtain ⟨i, rfl, hi', HM⟩ := hrel
    by_cases hlt : i < n
    · obtain ⟨b, o, f, hf, ha, hb, q0, q1⟩ := HA.out.at (k := i) (by rw [← HN.out]; exact hlt)
      have ha' : a = ⟨b, o, none⟩ := Option.some.inj ha
      subst ha'
      have c0 := (HM.out.below.cell (p := ⟨b, o + i * 2, none⟩) hb).trans q0
      have c1 := (HM.out.below.cell (p := ⟨b, o + i * 2 + 1, none⟩) hb).trans q1
      obtain ⟨x0, s0⟩ := Option.isSome_iff_exists.1 (HM.out.isS (i * 2) (by omega))
      obtain ⟨x1, s1⟩ := Option.isSome_iff_exists.1 (HM.out.isS (i * 2 + 1) (by omega))
      have s2 : (wr.setCell ⟨w.heap.size, i * 2, none⟩ (.int .i64 f.t)).cell? ⟨w.heap.size, i * 2 + 1, none⟩ = some x1 := by
        rw [World.cell?_setCell_other _ _ _ _ (by intro hh; injection hh with _ h2; omega)]
        exact s1
      have f0 := HM.out.free (i * 2)
      have f1 := HM.out.free (i * 2 + 1)
      have HNX' : Hid (Msg w w.heap.size n xs (i + 1) ((wr.setCell ⟨w.heap.size, i * 2, none⟩ (.int .i64 f.t)).setCell ⟨w.heap.size, i * 2 + 1, none⟩ (.string f.v))) := HM.out.next (Nat.le_refl _) hlt hf
      clear q0 q1 ha hf
      go_wp2
      go_roundw
      case rel => exact ⟨i + 1, by go_num, by omega, HNX'⟩
      case measure => simp [intOf]; omega
    · have hin : n = i := by omega
      subst hin
      go_wp2
      go_ret
      exact ⟨rfl, HM.out⟩
end Go.Proofs.Qxb6628755a
